/-
  Seat b6003965aF: replace, the plain side: how the entries are dealt out.
-/
import Derived.Test.Qxb6003965aFmtLeave
namespace Go.Proofs.Qxb6003965aFmt

/-- How the dealing stands: t joins are dealt; those in [c, e) have fewer than A, those behind have A. -/
structure Good (A : Int) (c n : Nat) (ps xs : List Int) (e : Nat) (f : Int → Int) (t : Nat) : Prop where
  len : xs.length = n
  fix : xs.take c = ps.take c
  perm : xs.Perm ps
  nodup : ps.Nodup
  ce : c ≤ e
  en : e ≤ n
  nn : ∀ u, 0 ≤ f u
  low : ∀ q, c ≤ q → q < e → f (xs.getD q 0) < A
  full : ∀ q, e ≤ q → q < n → f (xs.getD q 0) = A
  sum : ((ps.drop c).map f).sum = (t : Int)

theorem sum_const (f : Int → Int) (A : Int) : ∀ l : List Int, (∀ x ∈ l, f x = A) → (l.map f).sum = A * (l.length : Int)
  | [], _ => by simp
  | x :: l, h => by
    have ih := sum_const f A l (fun y hy => h y (List.mem_cons_of_mem _ hy))
    rw [List.map_cons, List.sum_cons, ih, h x (List.mem_cons_self ..), List.length_cons]
    rw [Int.natCast_add, Int.mul_add]; omega
theorem le_sum (f : Int → Int) (hf : ∀ u, 0 ≤ f u) : ∀ (l : List Int) (x : Int), x ∈ l → f x ≤ (l.map f).sum
  | y :: l, x, h => by
    have hs : 0 ≤ (l.map f).sum := by
      clear h
      induction l with
      | nil => simp
      | cons z l ih => rw [List.map_cons, List.sum_cons]; have := hf z; omega
    rw [List.map_cons, List.sum_cons]
    rcases List.mem_cons.1 h with e | h
    · rw [e]; omega
    · have := le_sum f hf l x h; have := hf y; omega
theorem sum_bump (f : Int → Int) (v : Int) : ∀ l : List Int, l.Nodup → ((l.map (fun u => if u = v then f v + 1 else f u)).sum = if v ∈ l then (l.map f).sum + 1 else (l.map f).sum)
  | [], _ => by simp
  | x :: l, h => by
    have h1 := (List.nodup_cons.1 h).1
    have ih := sum_bump f v l (List.nodup_cons.1 h).2
    rw [List.map_cons, List.sum_cons, ih, List.map_cons, List.sum_cons]
    by_cases e : x = v
    · subst e
      rw [if_pos rfl, if_neg h1, if_pos (List.mem_cons_self ..)]; omega
    · rw [if_neg e]
      by_cases m : v ∈ l
      · rw [if_pos m, if_pos (List.mem_cons_of_mem _ m)]; omega
      · rw [if_neg m, if_neg (by intro k; rcases List.mem_cons.1 k with k | k; exact e k.symm; exact m k)]

theorem perm_sum {l₁ l₂ : List Int} (h : l₁.Perm l₂) : l₁.sum = l₂.sum := by
  induction h with
  | nil => rfl
  | cons x _ ih => rw [List.sum_cons, List.sum_cons, ih]
  | swap x y l => simp only [List.sum_cons]; omega
  | trans _ _ i1 i2 => exact i1.trans i2

variable {A : Int} {c n : Nat} {ps xs : List Int} {e : Nat} {f : Int → Int} {t : Nat}
theorem Good.perm' (h : Good A c n ps xs e f t) : (xs.drop c).Perm (ps.drop c) := by
  have h1 := h.perm
  rw [← List.take_append_drop c xs, ← List.take_append_drop c ps, h.fix] at h1
  exact (List.perm_append_left_iff _).1 h1
theorem getD_drop_mem (xs : List Int) (c q : Nat) (h1 : c ≤ q) (h2 : q < xs.length) : xs.getD q 0 ∈ xs.drop c := by
  have : xs.getD q 0 = (xs.drop c)[q - c]'(by rw [List.length_drop]; omega) := by
    rw [List.getElem_drop]
    have e : c + (q - c) = q := by omega
    simp only [e]
    rw [List.getD, List.getElem?_eq_getElem h2]; rfl
  rw [this]; exact List.getElem_mem _
theorem mem_drop_getD {xs : List Int} {c : Nat} {x : Int} (h : x ∈ xs.drop c) : ∃ q, c ≤ q ∧ q < xs.length ∧ x = xs.getD q 0 := by
  obtain ⟨i, hi, rfl⟩ := List.getElem_of_mem h
  rw [List.length_drop] at hi
  refine ⟨c + i, by omega, by omega, ?_⟩
  rw [List.getElem_drop, List.getD, List.getElem?_eq_getElem (by omega)]; rfl
theorem Good.room (h : Good A c n ps xs e f t) (ht : t < c) (hA : (c : Int) ≤ A * ((n : Int) - (c : Int))) (hcn : c ≤ n) : c < e := by
  apply Classical.byContradiction
  intro hn
  have he : e = c := by have := h.ce; omega
  have h1 : ((xs.drop c).map f).sum = A * ((xs.drop c).length : Int) := sum_const f A _ (fun x hx => by
    obtain ⟨q, q1, q2, rfl⟩ := mem_drop_getD hx
    exact h.full q (by omega) (by rw [← h.len]; exact q2))
  have h2 : ((xs.drop c).map f).sum = ((ps.drop c).map f).sum := perm_sum (h.perm'.map f)
  rw [h2, h.sum, List.length_drop, h.len, Int.natCast_sub hcn] at h1
  omega
theorem Good.mem (h : Good A c n ps xs e f t) {i : Nat} (h1 : c ≤ i) (h2 : i < n) : xs.getD i 0 ∈ ps.drop c :=
  h.perm'.mem_iff.1 (getD_drop_mem xs c i h1 (by rw [h.len]; exact h2))
theorem Good.count_le (h : Good A c n ps xs e f t) {i : Nat} (h1 : c ≤ i) (h2 : i < n) : f (xs.getD i 0) ≤ (t : Int) := by
  rw [← h.sum]; exact le_sum f h.nn _ _ (h.mem h1 h2)
theorem getD_inj {xs : List Int} (h : xs.Nodup) {i j : Nat} (hi : i < xs.length) (hj : j < xs.length) (e : xs.getD i 0 = xs.getD j 0) : i = j := by
  rw [List.getD, List.getD, List.getElem?_eq_getElem hi, List.getElem?_eq_getElem hj] at e
  have e' : xs[i] = xs[j] := e
  have hp := List.pairwise_iff_getElem.1 h
  rcases Nat.lt_trichotomy i j with k | k | k
  · exact absurd e' (hp i j hi hj k)
  · exact k
  · exact absurd e'.symm (hp j i hj hi k)
/-- The chosen one takes one more. -/
theorem Good.bump_sum (h : Good A c n ps xs e f t) {i : Nat} (h1 : c ≤ i) (h2 : i < n) {v : Int} (hv : v = xs.getD i 0) :
    ((ps.drop c).map (fun u => if u = v then f v + 1 else f u)).sum = ((t + 1 : Nat) : Int) := by
  rw [sum_bump f v _ (h.nodup.sublist (List.drop_sublist _ _)), if_pos (by rw [hv]; exact h.mem h1 h2), h.sum]; omega
theorem Good.keep (h : Good A c n ps xs e f t) {i : Nat} (h1 : c ≤ i) (h2 : i < e) {v : Int} (hv : v = xs.getD i 0) (hA : f v + 1 ≠ A) : Good A c n ps xs e (fun u => if u = v then f v + 1 else f u) (t + 1) := by
  have hen := h.en
  have hnx : xs.Nodup := h.perm.nodup_iff.2 h.nodup
  refine ⟨h.len, h.fix, h.perm, h.nodup, h.ce, h.en, fun u => ?_, fun q q1 q2 => ?_, fun q q1 q2 => ?_, h.bump_sum h1 (by omega) hv⟩
  · by_cases eu : u = v
    · simp only [eu, if_true]; have := h.nn v; omega
    · simp only [if_neg eu]; exact h.nn u
  · by_cases eu : xs.getD q 0 = v
    · simp only [eu, if_true]; have := h.low i h1 h2; rw [← hv] at this; omega
    · simp only [if_neg eu]; exact h.low q q1 q2
  · have : xs.getD q 0 ≠ v := by
      intro eu; rw [hv] at eu; have := getD_inj hnx (by rw [h.len]; omega) (by rw [h.len]; omega) eu; omega
    simp only [if_neg this]; exact h.full q q1 q2
theorem take_swp (xs : List Int) (c i j : Nat) (h1 : c ≤ i) (h2 : c ≤ j) : (swp xs i j).take c = xs.take c := by
  unfold swp
  rw [List.take_set_of_le (by omega), List.take_set_of_le (by omega)]
theorem Good.move (h : Good A c n ps xs e f t) {i : Nat} (h1 : c ≤ i) (h2 : i < e) {v : Int} (hv : v = xs.getD i 0) (hA : f v + 1 = A) : Good A c n ps (swp xs i (e - 1)) (e - 1) (fun u => if u = v then f v + 1 else f u) (t + 1) := by
  have hen := h.en
  have hl := h.len
  have hnx : xs.Nodup := h.perm.nodup_iff.2 h.nodup
  have key : ∀ q, q < n → q ≠ i → xs.getD q 0 ≠ v := fun q q1 q2 eu => q2 (getD_inj hnx (by omega) (by omega) (by rw [eu, hv]))
  refine ⟨by rw [swp_len]; exact hl, ?_, (swp_perm xs i (e - 1) (by omega) (by omega)).trans h.perm, h.nodup, by omega, by omega, fun u => ?_, fun q q1 q2 => ?_, fun q q1 q2 => ?_, h.bump_sum h1 (by omega) hv⟩
  · rw [take_swp xs c i (e - 1) h1 (by omega)]; exact h.fix
  · by_cases eu : u = v
    · simp only [eu, if_true]; have := h.nn v; omega
    · simp only [if_neg eu]; exact h.nn u
  · have hg := swp_get xs i (e - 1) q (by omega) (by omega)
    rw [if_neg (by omega)] at hg
    by_cases e1 : i = q
    · rw [if_pos e1] at hg
      have hk := key (e - 1) (by omega) (by omega)
      simp only [hg, if_neg hk]; exact h.low (e - 1) (by omega) (by omega)
    · rw [if_neg e1] at hg
      have hk := key q (by omega) (by omega)
      simp only [hg, if_neg hk]; exact h.low q q1 (by omega)
  · have hg := swp_get xs i (e - 1) q (by omega) (by omega)
    by_cases e2 : e - 1 = q
    · rw [if_pos e2, ← hv] at hg
      simp only [hg, if_true]; exact hA
    · rw [if_neg e2, if_neg (by omega)] at hg
      have hk := key q (by omega) (by omega)
      simp only [hg, if_neg hk]; exact h.full q (by omega) q2
theorem Good.start (hl : ps.length = n) (hnd : ps.Nodup) (hcn : c ≤ n) (hA : 1 ≤ A) : Good A c n ps ps n (fun _ => 0) 0 :=
  ⟨hl, rfl, List.Perm.refl _, hnd, hcn, Nat.le_refl _, fun _ => Int.le_refl _, fun _ _ _ => by omega, fun _ h1 h2 => by omega, by
    have := sum_const (fun _ => 0) 0 (ps.drop c) (fun _ _ => rfl)
    rw [this]; simp⟩

/-- The cells of a row of joins. -/
def jcells (js : List (Int × Int)) : List Value := js.flatMap (fun p => [.int .i64 p.1, .int .i64 p.2])
theorem jcells_len (js : List (Int × Int)) : (jcells js).length = js.length * 2 := by
  induction js with
  | nil => rfl
  | cons p js ih => unfold jcells at *; rw [List.flatMap_cons, List.length_append, ih]; simp; omega
theorem jcells_snoc (js : List (Int × Int)) (a b : Int) : jcells (js ++ [(a, b)]) = jcells js ++ [.int .i64 a, .int .i64 b] := by
  unfold jcells; rw [List.flatMap_append]; rfl
theorem jcells_get : ∀ (js : List (Int × Int)) (j : Nat), j < js.length → (jcells js)[j * 2]? = some (.int .i64 (js.getD j (0, 0)).1) ∧ (jcells js)[j * 2 + 1]? = some (.int .i64 (js.getD j (0, 0)).2)
  | p :: js, 0, _ => ⟨rfl, rfl⟩
  | p :: js, j + 1, h => by
    have ih := jcells_get js j (by simpa using h)
    have e1 : (j + 1) * 2 = j * 2 + 1 + 1 := by omega
    have e2 : (j + 1) * 2 + 1 = (j * 2 + 1) + 1 + 1 := by omega
    rw [e2, e1]
    exact ih
theorem getD_append_one (js : List (Int × Int)) (p : Int × Int) (j : Nat) : (js ++ [p]).getD j (0, 0) = if j < js.length then js.getD j (0, 0) else if j = js.length then p else (0, 0) := by
  unfold List.getD
  by_cases h : j < js.length
  · rw [List.getElem?_append_left h, if_pos h]
  · rw [List.getElem?_append_right (by omega), if_neg h]
    by_cases e : j = js.length
    · rw [if_pos e, e]; simp
    · rw [if_neg e, List.getElem?_eq_none (by simp; omega)]; rfl
end Go.Proofs.Qxb6003965aFmt

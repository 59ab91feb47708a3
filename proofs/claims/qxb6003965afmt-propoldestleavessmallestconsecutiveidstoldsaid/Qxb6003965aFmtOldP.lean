/-
  Seat b6003965aF: a round of Oldest, the plain side.
-/
import Derived.Test.Qxb6003965aFmtRepl
namespace Go.Proofs.Qxb6003965aFmt

theorem pw_mono {α : Type} {R S : α → α → Prop} (h : ∀ a b, R a b → S a b) {l : List α} (hp : l.Pairwise R) : l.Pairwise S := by
  induction hp with
  | nil => exact .nil
  | cons h1 _ ih => exact .cons (fun b hb => h _ _ (h1 b hb)) ih
theorem consec_split (a : Int) (c n : Nat) (h : c ≤ n) : consec a n = consec a c ++ consec (a + (c : Int)) (n - c) := by
  refine list_ext (by simp [consec_len]; omega) (fun j hj => ?_)
  rw [consec_len] at hj
  rw [consec_get _ _ _ hj, List.getD]
  by_cases e : j < c
  · rw [List.getElem?_append_left (by rw [consec_len]; exact e)]
    have := consec_get a c j e
    rw [List.getD] at this; exact this.symm
  · rw [List.getElem?_append_right (by rw [consec_len]; omega), consec_len]
    have := consec_get (a + (c : Int)) (n - c) (j - c) (by omega)
    rw [List.getD] at this; rw [this]; omega
theorem mem_consec {a : Int} {n : Nat} {x : Int} : x ∈ consec a n ↔ a ≤ x ∧ x < a + (n : Int) := by
  unfold consec
  simp only [List.mem_map, List.mem_range]
  constructor
  · rintro ⟨i, hi, rfl⟩; omega
  · rintro ⟨h1, h2⟩; exact ⟨(x - a).toNat, by omega, by omega⟩
theorem consec_lt (a : Int) (n : Nat) : (consec a n).Pairwise (· < ·) := by
  unfold consec
  rw [List.pairwise_map]
  exact pw_mono (fun _ _ h => by omega) (List.pairwise_lt_range (n := n))
theorem consec_nodup (a : Int) (n : Nat) : (consec a n).Nodup := pw_mono (fun _ _ h => by omega) (consec_lt a n)
theorem srt_le (l : List Int) : (srt l).Pairwise (· ≤ ·) := by
  have := List.pairwise_mergeSort (le := fun x y : Int => decide (x ≤ y)) (fun a b c => by simp; omega) (fun a b => by simp; omega) l
  exact pw_mono (fun _ _ h => by simpa using h) this
theorem srt_eq {l : List Int} {a : Int} {n : Nat} (h : l.Perm (consec a n)) : srt l = consec a n :=
  List.Perm.eq_of_pairwise (le := (· ≤ ·)) (fun a b _ _ h1 h2 => by omega) (srt_le l) (pw_mono (fun _ _ h => by omega) (consec_lt a n)) ((List.mergeSort_perm l _).trans h)
theorem asc_consec (a : Int) (n : Nat) : Asc (consec a n) := by
  intro j hj
  rw [consec_len] at hj
  rw [consec_get _ _ _ (by omega), consec_get _ _ _ (by omega)]; omega

theorem filter_all {l : List Int} {p : Int → Bool} (h : ∀ x ∈ l, p x = true) : l.filter p = l := List.filter_eq_self.2 h
theorem filter_none {l : List Int} {p : Int → Bool} (h : ∀ x ∈ l, p x = false) : l.filter p = [] := List.filter_eq_nil_iff.2 (fun x hx e => by rw [h x hx] at e; cases e)
theorem take_getD {xs : List Int} {k : Nat} {x : Int} (h : x ∈ xs.take k) : ∃ j, j < k ∧ j < xs.length ∧ x = xs.getD j 0 := by
  obtain ⟨i, hi, rfl⟩ := List.getElem_of_mem h
  rw [List.length_take] at hi
  refine ⟨i, by omega, by omega, ?_⟩
  rw [List.getElem_take, List.getD, List.getElem?_eq_getElem (by omega)]; rfl

/-- Those below lo + c stand ahead: there are c of them. -/
theorem parted {xs : List Int} {lo : Int} {n c k : Nat} (hp : xs.Perm (consec lo n)) (hc : c ≤ n) (hk : k ≤ n) (h1 : ∀ j, j < k → xs.getD j 0 < lo + (c : Int)) (h2 : ∀ j, k ≤ j → j < n → lo + (c : Int) ≤ xs.getD j 0) :
    k = c ∧ (xs.take c).Perm (consec lo c) ∧ (xs.drop c).Perm (consec (lo + (c : Int)) (n - c)) := by
  have hl : xs.length = n := by rw [hp.length_eq, consec_len]
  have ht : ∀ x ∈ xs.take k, decide (x < lo + (c : Int)) = true := fun x hx => by
    obtain ⟨j, j1, j2, rfl⟩ := take_getD hx; simpa using h1 j j1
  have hd : ∀ x ∈ xs.drop k, decide (x < lo + (c : Int)) = false := fun x hx => by
    obtain ⟨j, j1, j2, rfl⟩ := mem_drop_getD hx; simpa using h2 j j1 (by omega)
  have hp2 := hp
  rw [← List.take_append_drop k xs, consec_split lo c n hc] at hp2
  have f1 := hp2.filter (fun x => decide (x < lo + (c : Int)))
  rw [List.filter_append, List.filter_append, filter_all ht, filter_none hd, filter_all (l := consec lo c) (fun x hx => by have := mem_consec.1 hx; simpa using this.2), filter_none (l := consec (lo + (c : Int)) (n - c)) (fun x hx => by have := mem_consec.1 hx; simpa using this.1), List.append_nil, List.append_nil] at f1
  have hkc : k = c := by
    have := f1.length_eq
    rw [List.length_take, consec_len] at this; omega
  subst hkc
  refine ⟨rfl, f1, ?_⟩
  exact (List.perm_append_left_iff _).1 (hp2.trans (f1.symm.append_right _))
theorem joined {xs : List Int} {lo : Int} {n c : Nat} (hc : c ≤ n) (hd : (xs.drop c).Perm (consec (lo + (c : Int)) (n - c))) : (consec (lo + (n : Int)) c ++ xs.drop c).Perm (consec (lo + (c : Int)) n) := by
  have e := consec_split (lo + (c : Int)) (n - c) n (by omega)
  have e1 : lo + (c : Int) + ((n - c : Nat) : Int) = lo + (n : Int) := by omega
  have e2 : n - (n - c) = c := by omega
  rw [e1, e2] at e
  rw [e]
  exact (List.perm_append_comm).trans (hd.append_right _)
end Go.Proofs.Qxb6003965aFmt

/-
  Seat b6003994aD: strconv.ParseInt, strings.CutPrefix, decimal.plain, decimal.Int.
-/
import Derived.Test.Qxb6003994aDoorPInt
import Derived.Lib.Slices
namespace Go.Proofs.Qxb6003994aDoor
open Go.RowKit

theorem tail_code (b : Nat) (neg : Bool) (r : Nat × Int) : (tail b neg r).2 = 0 ∨ (tail b neg r).2 = 1 ∨ (tail b neg r).2 = 2 := by
  unfold tail
  split
  · exact .inr (.inr rfl)
  · split
    · split
      · exact .inr (.inl rfl)
      · exact .inl rfl
    · split
      · exact .inr (.inl rfl)
      · exact .inl rfl
theorem pint_code (b : Nat) (l : List UInt8) : (pint b l).2 = 0 ∨ (pint b l).2 = 1 ∨ (pint b l).2 = 2 := by
  cases l with
  | nil => exact .inr (.inr rfl)
  | cons c cs =>
    simp only [pint]
    split
    · exact tail_code _ _ _
    · split
      · exact tail_code _ _ _
      · exact tail_code _ _ _

/-- What strconv.ParseInt leaves. -/
def IoPost (r : Int × Int) (w : World) (e : Ending) (w' : World) : Prop := ∃ v x, e = .returned (.tuple #[.int .i64 v, if r.2 = 0 then .nilIface else .iface 44 x]) ∧ (r.2 = 0 → v = r.1) ∧ Below w.heap.size w w'
theorem IoPost.intro {r : Int × Int} {w : World} {e : Ending} {w' : World} (v : Int) (x : Value) (h : e = .returned (.tuple #[.int .i64 v, if r.2 = 0 then .nilIface else .iface 44 x])) (h2 : r.2 = 0 → v = r.1) (h3 : Below w.heap.size w w') : IoPost r w e w' := ⟨v, x, h, h2, h3⟩

set_option maxHeartbeats 6400000 in
set_option maxRecDepth 100000 in
theorem parseInt_all (b : Nat) (h1 : 1 ≤ b) (h64 : b ≤ 64) (s : ByteArray) (hmax : s.size ≤ 1048576) (w : World) (hg : Gl w) :
    Calls Tryd.prog 19 #[.string s, .int .i64 10, .int .i64 (b : Int)] w (IoPost (pint b s.data.toList) w) := by
  have hI := pint_all b h1 h64 s hmax w
  have hcd := pint_code b s.data.toList
  obtain ⟨r, hr⟩ : ∃ r, r = pint b s.data.toList := ⟨_, rfl⟩
  rw [← hr] at hI hcd ⊢
  clear hr
  obtain ⟨x, c⟩ := r
  have hI : Calls Tryd.prog 23 #[.string s, .int .i64 10, .int .i64 (b : Int)] w fun e w' => ∃ v, e = .returned (.tuple #[.int .i64 v, errv c]) ∧ Hid (c = 0 → v = x) ∧ Below w.heap.size w w' := hI
  have hcd : c = 0 ∨ c = 1 ∨ c = 2 := hcd
  rcases hcd with rfl | rfl | rfl
  · have hI : Calls Tryd.prog 23 #[.string s, .int .i64 10, .int .i64 (b : Int)] w fun e w' => ∃ v, e = .returned (.tuple #[.int .i64 v, .nilIface]) ∧ Hid ((0 : Int) = 0 → v = x) ∧ Below w.heap.size w w' := hI
    go_enter Tryd.func19, Tryd.ntmps19
    go_wp2_with (go_at_call 23; refine hI.mono ?_; rintro e w1 ⟨v, rfl, hv, hw1⟩)
    go_ret2
    exact IoPost.intro _ .nilIface rfl (fun _ => hv.out trivial) hw1
  · have hI : Calls Tryd.prog 23 #[.string s, .int .i64 10, .int .i64 (b : Int)] w fun e w' => ∃ v, e = .returned (.tuple #[.int .i64 v, .iface 41 (.int .i64 1)]) ∧ Hid ((1 : Int) = 0 → v = x) ∧ Below w.heap.size w w' := hI
    go_enter Tryd.func19, Tryd.ntmps19
    go_wp2_with (first
      | (go_at_call 23; refine hI.mono ?_; rintro e w1 ⟨v, rfl, hv, hw1⟩)
      | (go_at_call 22; refine (toError_1 _ _ _ _ _ hmax (hg.below hw1)).mono ?_; rintro e w2 ⟨y, rfl, hw2⟩))
    go_ret2
    exact IoPost.intro _ y rfl (fun h => absurd h (by simp)) (hw1.trans (hw2.mono hw1.size))
  · have hI : Calls Tryd.prog 23 #[.string s, .int .i64 10, .int .i64 (b : Int)] w fun e w' => ∃ v, e = .returned (.tuple #[.int .i64 v, .iface 41 (.int .i64 2)]) ∧ Hid ((2 : Int) = 0 → v = x) ∧ Below w.heap.size w w' := hI
    go_enter Tryd.func19, Tryd.ntmps19
    go_wp2_with (first
      | (go_at_call 23; refine hI.mono ?_; rintro e w1 ⟨v, rfl, hv, hw1⟩)
      | (go_at_call 22; refine (toError_2 _ _ _ _ _ hmax (hg.below hw1)).mono ?_; rintro e w2 ⟨y, rfl, hw2⟩))
    go_ret2
    exact IoPost.intro _ y rfl (fun h => absurd h (by simp)) (hw1.trans (hw2.mono hw1.size))

set_option maxHeartbeats 1000000 in
theorem cut_any (s p : ByteArray) (w : World) :
    Calls Tryd.prog 20 #[.string s, .string p] w fun e w' => e = .returned (.tuple #[.string ⟨(Lib.trimPrefix s.data.toList p.data.toList).toArray⟩, .bool (Lib.hasPrefix s.data.toList p.data.toList)]) ∧ w' = w := by
  go_enter Tryd.func20, Tryd.ntmps20
  go_wp2
  · have h2 : (!((s.extract 0 p.size).toList == p.toList)) = true := by assumption
    have h3 : (decide (p.size ≤ s.size) && ((s.extract 0 p.size).toList == p.toList)) = false := by
      have : ((s.extract 0 p.size).toList == p.toList) = false := by simpa using h2
      rw [this]
      simp
    go_ret2
    refine ⟨?_, rfl⟩
    rw [Lib.trimPrefix_miss s p h3, ← Lib.hasPrefix_raw, h3]
    rfl
  · have h1 : p.size ≤ s.size := by assumption
    have h2 : (!((s.extract 0 p.size).toList == p.toList)) = false := by assumption
    have h2' : ((s.extract 0 p.size).toList == p.toList) = true := by simpa using h2
    go_ret2
    refine ⟨?_, rfl⟩
    rw [Lib.trimPrefix_hit s p h1 h2', ← Lib.hasPrefix_raw, h2', decide_eq_true h1]
    rfl
  · have h1 : ¬ p.size ≤ s.size := by assumption
    have h3 : (decide (p.size ≤ s.size) && ((s.extract 0 p.size).toList == p.toList)) = false := by simp [h1]
    go_ret2
    refine ⟨?_, rfl⟩
    rw [Lib.trimPrefix_miss s p h3, ← Lib.hasPrefix_raw, h3]
    rfl

theorem b43 (c : UInt8) : c = 43 ↔ (c.toNat : Int) = 43 := by
  constructor
  · intro h
    rw [h]
    rfl
  · intro h
    apply UInt8.toNat_inj.1
    show c.toNat = 43
    omega
theorem b48 (c : UInt8) : c = 48 ↔ (c.toNat : Int) = 48 := by
  constructor
  · intro h
    rw [h]
    rfl
  · intro h
    apply UInt8.toNat_inj.1
    show c.toNat = 48
    omega

/-- No plus sign, no leading zero save in one zero. -/
def plainB : List UInt8 → Bool
  | [] => false
  | c :: r => decide (c ≠ 43) && (decide (c ≠ 48) || r.isEmpty)
def PlPost (l : List UInt8) (w : World) (e : Ending) (w' : World) : Prop := e = .returned (.bool (plainB l)) ∧ w' = w
theorem plain_any (c : UInt8) (r : List UInt8) (hl : r.length ≤ 1048576) (w : World) :
    Calls Tryd.prog 17 #[.string ⟨(c :: r).toArray⟩] w (PlPost (c :: r) w) := by
  obtain ⟨s, hs⟩ : ∃ s : ByteArray, s = ⟨(c :: r).toArray⟩ := ⟨_, rfl⟩
  have hL : s.data.toList = c :: r := by rw [hs]
  rw [← hs]
  clear hs
  have hsz : s.size = r.length + 1 := by rw [Lib.size_eq, hL]; rfl
  have hpos : 0 < s.size := by omega
  have hs0 : s[0]'hpos = c := by have := Lib.getD_at s 0 hpos; rw [hL] at this; exact this
  clear hL
  have H : ∀ bb, bb = plainB (c :: r) → Hid (PlPost (c :: r) w (.returned (.bool bb)) w) := fun bb h => ⟨by rw [h], rfl⟩
  have e43 := b43 c
  have e48 := b48 c
  by_cases h43 : c = 43
  · have R := H false (by simp [plainB, h43])
    have i43 := e43.1 h43
    clear e43 e48 h43 H
    go_enter Tryd.func17, Tryd.ntmps17
    go_wp2
    go_ret
    exact R.out
  · by_cases h48 : c = 48
    · have R := H (decide (r.length = 0)) (by cases r <;> simp [plainB, h48])
      have i48 := e48.1 h48
      clear e43 e48 h48 H h43
      by_cases hr : r.length = 0
      · rw [decide_eq_true hr] at R
        go_enter Tryd.func17, Tryd.ntmps17
        go_wp2
        go_ret
        exact R.out
      · rw [decide_eq_false hr] at R
        have hq : ((r.length : Int) + 1 == 1) = false := beq_eq_false_iff_ne.2 (fun h => hr (by omega))
        rw [← hq] at R
        clear hq
        go_enter Tryd.func17, Tryd.ntmps17
        go_wp2
        go_ret
        exact R.out
    · have R := H true (by simp [plainB, h43, h48])
      have i43 : ¬ (c.toNat : Int) = 43 := fun h => h43 (e43.2 h)
      have i48 : ¬ (c.toNat : Int) = 48 := fun h => h48 (e48.2 h)
      have hq : ((c.toNat : Int) != 43) = true := by simpa using i43
      rw [← hq] at R
      clear e43 e48 h48 H h43 hq
      go_enter Tryd.func17, Tryd.ntmps17
      go_wp2
      go_ret
      exact R.out

def cutl (l : List UInt8) : List UInt8 := Lib.trimPrefix l [45]
def negl (l : List UInt8) : Bool := Lib.hasPrefix l [45]
/-- decimal.Int's answer. -/
def dint (b : Nat) (l : List UInt8) : Int × Bool :=
  if (pint b l).2 ≠ 0 then (0, false) else if plainB (cutl l) = false then (0, false) else if negl l = true ∧ (pint b l).1 = 0 then (0, false) else ((pint b l).1, true)
theorem cutl_minus (cs : List UInt8) : cutl (45 :: cs) = cs := by simp [cutl, Lib.trimPrefix, Lib.hasPrefix]
theorem cutl_other (c : UInt8) (cs : List UInt8) (h : c ≠ 45) : cutl (c :: cs) = c :: cs := by
  have h' : (45 : UInt8) ≠ c := fun e => h e.symm
  simp [cutl, Lib.trimPrefix, Lib.hasPrefix, List.isPrefixOf, h']
theorem negl_minus (cs : List UInt8) : negl (45 :: cs) = true := by simp [negl, Lib.hasPrefix]
theorem negl_other (c : UInt8) (cs : List UInt8) (h : c ≠ 45) : negl (c :: cs) = false := by
  have h' : (45 : UInt8) ≠ c := fun e => h e.symm
  simp [negl, Lib.hasPrefix, List.isPrefixOf, h']
theorem negl_nil : negl [] = false := by decide

theorem cutl_ne (b : Nat) (l : List UInt8) (h : (pint b l).2 = 0) : ∃ c r, cutl l = c :: r := by
  cases l with
  | nil => simp [pint] at h
  | cons c cs =>
    by_cases hc : c = 45
    · subst hc
      cases cs with
      | nil => simp [pint, pui, tail] at h
      | cons c' cs' => exact ⟨c', cs', cutl_minus _⟩
    · exact ⟨c, cs, cutl_other c cs hc⟩
theorem cutl_len (l : List UInt8) : (cutl l).length ≤ l.length := by
  unfold cutl Lib.trimPrefix
  split
  · simp
  · exact Nat.le_refl _

def DiPost (b : Nat) (l : List UInt8) (w : World) (e : Ending) (w' : World) : Prop := e = .returned (.tuple #[.int .i64 (dint b l).1, .bool (dint b l).2]) ∧ Below w.heap.size w w'

set_option maxHeartbeats 6400000 in
set_option maxRecDepth 100000 in
theorem dint_all (b : Nat) (h1 : 1 ≤ b) (h64 : b ≤ 64) (s : ByteArray) (hmax : s.size ≤ 1048576) (w : World) (hg : Gl w) :
    Calls Tryd.prog 11 #[.string s, .int .i64 (b : Int)] w (DiPost b s.data.toList w) := by
  have hI := parseInt_all b h1 h64 s hmax w hg
  have hC := fun w => cut_any s ⟨#[45]⟩ w
  have hC : ∀ w, Calls Tryd.prog 20 #[.string s, .string ⟨#[45]⟩] w fun e w' => e = .returned (.tuple #[.string ⟨(cutl s.data.toList).toArray⟩, .bool (negl s.data.toList)]) ∧ w' = w := hC
  have hsz := Lib.size_eq s
  obtain ⟨l, hl⟩ : ∃ l, l = s.data.toList := ⟨_, rfl⟩
  rw [← hl] at hI hC hsz ⊢
  clear hl
  have H : ∀ v bb w', dint b l = (v, bb) → Hid (Below w.heap.size w w' → DiPost b l w (.returned (.tuple #[.int .i64 v, .bool bb])) w') := fun v bb w' h hb => ⟨by rw [h], hb⟩
  by_cases h0 : (pint b l).2 = 0
  · obtain ⟨c, r, hcr⟩ := cutl_ne b l h0
    have hll := cutl_len l
    have hP := fun w => plain_any c r (by rw [hcr] at hll; simp at hll; omega) w
    have hd : dint b l = if plainB (c :: r) = false then (0, false) else if negl l = true ∧ (pint b l).1 = 0 then (0, false) else ((pint b l).1, true) := by
      unfold dint
      rw [if_neg (by simpa using h0), hcr]
    rw [hcr] at hC
    obtain ⟨x, hx⟩ : ∃ x, x = (pint b l).1 := ⟨_, rfl⟩
    rw [← hx] at hd
    have hI : Calls Tryd.prog 19 #[.string s, .int .i64 10, .int .i64 (b : Int)] w fun e w' => e = .returned (.tuple #[.int .i64 x, .nilIface]) ∧ Below w.heap.size w w' := by
      refine hI.mono ?_
      rintro e w' ⟨v, y, rfl, hv, hb⟩
      rw [if_pos h0, hv h0, hx]
      exact ⟨rfl, hb⟩
    clear hcr hx h0
    cases hp : plainB (c :: r) with
    | false =>
      have R := fun w' => H 0 false w' (by rw [hd, if_pos hp])
      have hP : ∀ w, Calls Tryd.prog 17 #[.string ⟨(c :: r).toArray⟩] w fun e w' => e = .returned (.bool false) ∧ w' = w := fun w => by have := hP w; unfold PlPost at this; rw [hp] at this; exact this
      clear hd H hp
      go_enter Tryd.func11, Tryd.ntmps11
      go_wp2_with (first
        | (go_at_call 19; refine hI.mono ?_; rintro e w1 ⟨rfl, hw1⟩)
        | (go_at_call 20; refine (hC _).mono ?_; rintro e w1 ⟨rfl, rfl⟩)
        | (go_at_call 17; refine (hP _).mono ?_; rintro e w1 ⟨rfl, rfl⟩))
      go_ret2
      exact (R _).out hw1
    | true =>
      have hP : ∀ w, Calls Tryd.prog 17 #[.string ⟨(c :: r).toArray⟩] w fun e w' => e = .returned (.bool true) ∧ w' = w := fun w => by have := hP w; unfold PlPost at this; rw [hp] at this; exact this
      rw [if_neg (by rw [hp]; decide)] at hd
      clear hp
      cases hn : negl l with
      | false =>
        have R := fun w' => H x true w' (by rw [hd, hn, if_neg (by simp)])
        rw [hn] at hC
        clear hd H hn
        go_enter Tryd.func11, Tryd.ntmps11
        go_wp2_with (first
          | (go_at_call 19; refine hI.mono ?_; rintro e w1 ⟨rfl, hw1⟩)
          | (go_at_call 20; refine (hC _).mono ?_; rintro e w1 ⟨rfl, rfl⟩)
          | (go_at_call 17; refine (hP _).mono ?_; rintro e w1 ⟨rfl, rfl⟩))
        go_ret2
        exact (R _).out hw1
      | true =>
        rw [hn] at hC
        by_cases hx0 : x = 0
        · have R := fun w' => H 0 false w' (by rw [hd, if_pos ⟨hn, hx0⟩])
          clear hd H hn
          go_enter Tryd.func11, Tryd.ntmps11
          go_wp2_with (first
            | (go_at_call 19; refine hI.mono ?_; rintro e w1 ⟨rfl, hw1⟩)
            | (go_at_call 20; refine (hC _).mono ?_; rintro e w1 ⟨rfl, rfl⟩)
            | (go_at_call 17; refine (hP _).mono ?_; rintro e w1 ⟨rfl, rfl⟩))
          go_ret2
          exact (R _).out hw1
        · have R := fun w' => H x true w' (by rw [hd, if_neg (fun h => hx0 h.2)])
          clear hd H hn
          go_enter Tryd.func11, Tryd.ntmps11
          go_wp2_with (first
            | (go_at_call 19; refine hI.mono ?_; rintro e w1 ⟨rfl, hw1⟩)
            | (go_at_call 20; refine (hC _).mono ?_; rintro e w1 ⟨rfl, rfl⟩)
            | (go_at_call 17; refine (hP _).mono ?_; rintro e w1 ⟨rfl, rfl⟩))
          go_ret2
          exact (R _).out hw1
  · have R := fun w' => H 0 false w' (by unfold dint; rw [if_pos (by simpa using h0)])
    have hI : Calls Tryd.prog 19 #[.string s, .int .i64 10, .int .i64 (b : Int)] w fun e w' => ∃ v y, e = .returned (.tuple #[.int .i64 v, .iface 44 y]) ∧ Below w.heap.size w w' := by
      refine hI.mono ?_
      rintro e w' ⟨v, y, rfl, hv, hb⟩
      rw [if_neg h0]
      exact ⟨v, y, rfl, hb⟩
    clear H h0
    go_enter Tryd.func11, Tryd.ntmps11
    go_wp2_with (first
      | (go_at_call 19; refine hI.mono ?_; rintro e w1 ⟨v, y, rfl, hw1⟩)
      | (go_at_call 20; refine (hC _).mono ?_; rintro e w1 ⟨rfl, rfl⟩))
    go_ret2
    exact (R _).out hw1
end Go.Proofs.Qxb6003994aDoor

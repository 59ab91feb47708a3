/-
  Seat b6003994aD: the law from two bits on.
-/
import Derived.Test.Qxb6003994aDoorPlain
namespace Go.Proofs.Qxb6003994aDoor
open Go.RowKit

/-- True; of what was there nothing has turned. -/
def LwPost (w : World) (e : Ending) (w' : World) : Prop := e = .returned (.bool true) ∧ Below w.heap.size w w'

set_option maxHeartbeats 3200000 in
theorem zzb10 (s : ByteArray) (x : Int) (hs : s.size ≤ 9223372036854775807) (w : World) :
    Calls Tryd.prog 10 #[.string s, .int .i64 x] w fun e w' => e = .returned (.bool (decide (s.size ≤ 1048576))) ∧ w' = w := by
  by_cases h : s.size ≤ 1048576
  · rw [decide_eq_true h]
    go_enter Tryd.func10, Tryd.ntmps10
    go_wp2
    go_ret
    exact ⟨rfl, rfl⟩
  · rw [decide_eq_false h]
    go_enter Tryd.func10, Tryd.ntmps10
    go_wp2
    go_ret
    exact ⟨rfl, rfl⟩

theorem dint_zero (b : Nat) (l : List UInt8) (h : (dint b l).2 = false) : (dint b l).1 = 0 := by
  unfold dint at h ⊢
  split
  · rfl
  · rename_i h1
    rw [if_neg h1] at h
    split
    · rfl
    · rename_i h2
      rw [if_neg h2] at h
      split
      · rfl
      · rename_i h3
        rw [if_neg h3] at h
        simp at h

set_option maxHeartbeats 6400000 in
set_option maxRecDepth 100000 in
theorem lawA (s : ByteArray) (x : Int) (hs : s.size ≤ 9223372036854775807) (w : World) (hg : Gl w) : Calls Tryd.prog 4 #[.string s, .int .i64 x] w (LwPost w) := by
  have hZ := zzb10 s x hs w
  have R0 : Hid (LwPost w (.returned (.bool true)) w) := ⟨rfl, Below.refl _ _⟩
  by_cases h20 : s.size ≤ 1048576
  · rw [decide_eq_true h20] at hZ
    by_cases h16 : s.size ≤ 65536
    · by_cases hlo : x < 2
      · clear hg
        go_enter Tryd.func4, Tryd.ntmps4
        go_wp2_with (go_at_call 10; refine hZ.mono ?_; rintro e w1 ⟨rfl, rfl⟩)
        go_ret
        exact R0.out
      · by_cases hhi : 64 < x
        · clear hg
          go_enter Tryd.func4, Tryd.ntmps4
          go_wp2_with (go_at_call 10; refine hZ.mono ?_; rintro e w1 ⟨rfl, rfl⟩)
          go_ret
          exact R0.out
        · obtain ⟨b, rfl⟩ : ∃ b : Nat, x = (b : Int) := ⟨x.toNat, by omega⟩
          have hD := dint_all b (by omega) (by omega) s h20 w hg
          have hMd := fun w => mint_all b (by omega) (by omega) s h20 w
          have hlaw := law_two b (by omega) (by omega) s.data.toList
          have hz := dint_zero b s.data.toList
          unfold DiPost at hD
          unfold MiPost at hMd
          rw [← hlaw] at hMd
          clear hlaw hg
          generalize dint b s.data.toList = p at *
          obtain ⟨v, ok⟩ := p
          have hD : Calls Tryd.prog 11 #[.string s, .int .i64 (b : Int)] w fun e w' => e = .returned (.tuple #[.int .i64 v, .bool ok]) ∧ Below w.heap.size w w' := hD
          have hMd : ∀ w, Calls Tryd.prog 12 #[.string s, .int .i64 (b : Int)] w fun e w' => e = .returned (.tuple #[.int .i64 v, .bool ok]) ∧ w' = w := hMd
          have hz : ok = false → v = 0 := hz
          have R1 : ∀ w1, Hid (Below w.heap.size w w1 → LwPost w (.returned (.bool true)) w1) := fun w1 h => ⟨rfl, h⟩
          cases ok with
          | true =>
            clear hz
            go_enter Tryd.func4, Tryd.ntmps4
            go_wp2_with (first
              | (go_at_call 10; refine hZ.mono ?_; rintro e w1 ⟨rfl, rfl⟩)
              | (go_at_call 11; refine hD.mono ?_; rintro e w1 ⟨rfl, hw1⟩)
              | (go_at_call 12; refine (hMd _).mono ?_; rintro e w1 ⟨rfl, rfl⟩))
            go_ret
            exact (R1 _).out hw1
          | false =>
            have hz := hz rfl
            subst hz
            go_enter Tryd.func4, Tryd.ntmps4
            go_wp2_with (first
              | (go_at_call 10; refine hZ.mono ?_; rintro e w1 ⟨rfl, rfl⟩)
              | (go_at_call 11; refine hD.mono ?_; rintro e w1 ⟨rfl, hw1⟩)
              | (go_at_call 12; refine (hMd _).mono ?_; rintro e w1 ⟨rfl, rfl⟩))
            go_ret
            exact (R1 _).out hw1
    · clear hg
      go_enter Tryd.func4, Tryd.ntmps4
      go_wp2_with (go_at_call 10; refine hZ.mono ?_; rintro e w1 ⟨rfl, rfl⟩)
      go_ret
      exact R0.out
  · rw [decide_eq_false h20] at hZ
    clear hg
    go_enter Tryd.func4, Tryd.ntmps4
    go_wp2_with (go_at_call 10; refine hZ.mono ?_; rintro e w1 ⟨rfl, rfl⟩)
    go_ret
    exact R0.out
end Go.Proofs.Qxb6003994aDoor

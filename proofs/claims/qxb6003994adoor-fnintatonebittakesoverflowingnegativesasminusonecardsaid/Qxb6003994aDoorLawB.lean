/-
  Seat b6003994aD: the law at one bit: its walk.
-/
import Derived.Test.Qxb6003994aDoorOneP
namespace Go.Proofs.Qxb6003994aDoor
open Go.RowKit

/-- True; of what was there nothing has turned. -/
def LwPostB (w : World) (e : Ending) (w' : World) : Prop := e = .returned (.bool true) ∧ Below w.heap.size w w'

set_option maxHeartbeats 3200000 in
theorem zzb13 (s : ByteArray) (hs : s.size ≤ 9223372036854775807) (w : World) :
    Calls Tryd.prog 13 #[.string s] w fun e w' => e = .returned (.bool (decide (s.size ≤ 1048576))) ∧ w' = w := by
  by_cases h : s.size ≤ 1048576
  · rw [decide_eq_true h]
    go_enter Tryd.func13, Tryd.ntmps13
    go_wp2
    go_ret
    exact ⟨rfl, rfl⟩
  · rw [decide_eq_false h]
    go_enter Tryd.func13, Tryd.ntmps13
    go_wp2
    go_ret
    exact ⟨rfl, rfl⟩

set_option maxHeartbeats 6400000 in
set_option maxRecDepth 100000 in
theorem lawB (s : ByteArray) (hs : s.size ≤ 9223372036854775807) (w : World) (hg : Gl w) : Calls Tryd.prog 5 #[.string s] w (LwPostB w) := by
  have hZ := zzb13 s hs w
  have R0 : Hid (LwPostB w (.returned (.bool true)) w) := ⟨rfl, Below.refl _ _⟩
  by_cases h20 : s.size ≤ 1048576
  · rw [decide_eq_true h20] at hZ
    by_cases h16 : s.size ≤ 65536
    · have hD := dint_all 1 (by omega) (by omega) s h20 w hg
      have hMd := fun w => one_all s h20 w
      have hlaw := law_one s.data.toList
      unfold DiPost at hD
      unfold MoPost at hMd
      rw [← hlaw] at hMd
      clear hlaw hg
      generalize dint 1 s.data.toList = p at *
      obtain ⟨v, ok⟩ := p
      have hD : Calls Tryd.prog 11 #[.string s, .int .i64 1] w fun e w' => e = .returned (.tuple #[.int .i64 v, .bool ok]) ∧ Below w.heap.size w w' := hD
      have hMd : ∀ w, Calls Tryd.prog 14 #[.string s] w fun e w' => e = .returned (.tuple #[.int .i64 v, .bool ok]) ∧ w' = w := hMd
      have R1 : ∀ w1, Hid (Below w.heap.size w w1 → LwPostB w (.returned (.bool true)) w1) := fun w1 h => ⟨rfl, h⟩
      go_enter Tryd.func5, Tryd.ntmps5
      go_wp2_with (first
        | (go_at_call 13; refine hZ.mono ?_; rintro e w1 ⟨rfl, rfl⟩)
        | (go_at_call 11; refine hD.mono ?_; rintro e w1 ⟨rfl, hw1⟩)
        | (go_at_call 14; refine (hMd _).mono ?_; rintro e w1 ⟨rfl, rfl⟩))
      go_ret
      exact (R1 _).out hw1
    · clear hg
      go_enter Tryd.func5, Tryd.ntmps5
      go_wp2_with (go_at_call 13; refine hZ.mono ?_; rintro e w1 ⟨rfl, rfl⟩)
      go_ret
      exact R0.out
  · rw [decide_eq_false h20] at hZ
    clear hg
    go_enter Tryd.func5, Tryd.ntmps5
    go_wp2_with (go_at_call 13; refine hZ.mono ?_; rintro e w1 ⟨rfl, rfl⟩)
    go_ret
    exact R0.out
end Go.Proofs.Qxb6003994aDoor

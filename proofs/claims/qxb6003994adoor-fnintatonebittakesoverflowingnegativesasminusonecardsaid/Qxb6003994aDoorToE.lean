/-
  Seat b6003994aD: strconv.toError at the two errors that may come.
-/
import Derived.Test.Qxb6003994aDoorErr
namespace Go.Proofs.Qxb6003994aDoor
open Go.RowKit

/-- The two variables hold something. -/
structure Gl (w : World) : Prop where
  g0 : ∃ te pe, w.cell? ⟨0, 0, none⟩ = some (.iface te pe)
  g1 : ∃ te pe, w.cell? ⟨1, 0, none⟩ = some (.iface te pe)
theorem Gl.below {w w' : World} (h : Gl w) (hb : Below w.heap.size w w') : Gl w' := by
  obtain ⟨⟨t0, p0, h0⟩, t1, p1, h1⟩ := h
  exact ⟨⟨t0, p0, (hb.cell (p := ⟨0, 0, none⟩) (Lib.lt_of_cell h0)).trans h0⟩, t1, p1, (hb.cell (p := ⟨1, 0, none⟩) (Lib.lt_of_cell h1)).trans h1⟩

/-- An error that is not nil; of what was there nothing has turned. -/
def IfPost (w : World) (e : Ending) (w' : World) : Prop := ∃ v, e = .returned (.iface 44 v) ∧ Below w.heap.size w w'
theorem IfPost.intro {w : World} {e : Ending} {w' : World} (v : Value) (h : e = .returned (.iface 44 v)) (hb : Below w.heap.size w w') : IfPost w e w' := ⟨v, h, hb⟩

set_option maxHeartbeats 3200000 in
theorem toError_2 (fn s : ByteArray) (a b : Int) (w : World) (hlim : s.size ≤ 1048576) (hg : Gl w) :
    Calls Tryd.prog 22 #[.string fn, .string s, .int .i64 a, .int .i64 b, .iface 41 (.int .i64 2)] w (IfPost w) := by
  obtain ⟨te, pe, hv⟩ := hg.g0
  have hq := eqlE
  go_enter Tryd.func22, Tryd.ntmps22
  go_wp2_with (go_at_call 27; refine (syntaxError_any _ _ te pe _ hlim hv).mono ?_; rintro e w' ⟨N, rfl, hb⟩)
  go_ret
  exact IfPost.intro _ rfl hb

set_option maxHeartbeats 3200000 in
theorem toError_1 (fn s : ByteArray) (a b : Int) (w : World) (hlim : s.size ≤ 1048576) (hg : Gl w) :
    Calls Tryd.prog 22 #[.string fn, .string s, .int .i64 a, .int .i64 b, .iface 41 (.int .i64 1)] w (IfPost w) := by
  obtain ⟨te, pe, hv⟩ := hg.g1
  have hq := eqlE
  go_enter Tryd.func22, Tryd.ntmps22
  go_wp2_with (go_at_call 28; refine (rangeError_any _ _ te pe _ hlim hv).mono ?_; rintro e w' ⟨N, rfl, hb⟩)
  go_ret
  exact IfPost.intro _ rfl hb
end Go.Proofs.Qxb6003994aDoor

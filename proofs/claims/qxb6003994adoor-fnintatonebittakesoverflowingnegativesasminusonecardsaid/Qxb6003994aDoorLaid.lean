/-
  Seat b6003994aD: what the listed variables give the walks; a start that meets the condition.
-/
import Derived.Test.Qxb6003994aDoorToE
import Derived.ProofKit
import Derived.LaidMore
import Derived.LaidLaws
import Derived.MakeChecks
import Derived.Stop.Joined
namespace Go.Proofs.Qxb6003994aDoor
open Go.ChangeShapes Go.WideShapes Go.RowKit

def laidL : List (String × DataW Unit) := [("math/bits.deBruijn32tab", Rows.laid_math_bits_deBruijn32tab), ("math/bits.deBruijn64tab", Rows.laid_math_bits_deBruijn64tab), ("internal/strconv.uint64pow10", Rows.laid_internal_strconv_uint64pow10), ("strconv.ErrRange", Rows.laid_strconv_ErrRange), ("strconv.ErrSyntax", Rows.laid_strconv_ErrSyntax)]

theorem own : ownKnob Tryd.prog.godebug = none := by kernel_rfl
theorem gSyn : Tryd.prog.globalNamed "strconv.ErrSyntax" = some 0 := by kernel_rfl
theorem gRan : Tryd.prog.globalNamed "strconv.ErrRange" = some 1 := by kernel_rfl
theorem tSyn : (Tryd.prog.globals[0]?).map (·.type) = some 31 := by kernel_rfl
theorem tRan : (Tryd.prog.globals[1]?).map (·.type) = some 31 := by kernel_rfl
theorem laidPlain : (laidL.all fun x => x.2.handleName?.isNone) = true := by kernel_rfl

theorem door_met (os : Os) (args : Array Value) : laidMetH Tryd.prog laidL ((World.doorLaid Tryd.prog 62 os).forCall (fun _ _ => 0) ⟨#[], args, []⟩).memory :=
  laidMetH_of_parts3 (fuel := 8) (laidMet_of_run' 8 (by kernel_rfl) (by kernel_rfl)) (by kernel_rfl) (by kernel_rfl)

theorem of_laid {W : World} (h : laidMetH Tryd.prog laidL W) : Gl W := by
  rw [MakeChecks.laidMetH_plain _ _ _ laidPlain] at h
  obtain ⟨ps, hV, _, _⟩ := h
  obtain ⟨_, _, _, _, _, _, _, _, _, _, hV, _⟩ := hV
  obtain ⟨_, _, _, _, _, _, _, _, _, _, hV, _⟩ := hV
  obtain ⟨_, _, _, _, _, _, _, _, _, _, hV, _⟩ := hV
  obtain ⟨g1, t1, cs1, f1, p1, q1, hg1, ht1, hv1, hd1, hV, _⟩ := hV
  obtain ⟨g0, t0, cs0, f0, p0, q0, hg0, ht0, hv0, hd0, hV, _⟩ := hV
  obtain rfl := Option.some.inj (gSyn.symm.trans hg0)
  obtain rfl := Option.some.inj (gRan.symm.trans hg1)
  obtain rfl := Option.some.inj (tSyn.symm.trans ht0)
  obtain rfl := Option.some.inj (tRan.symm.trans ht1)
  obtain ⟨_, u0, v0, e0, _, _⟩ := iface_of_trod Tryd.underlying31 hd0
  obtain ⟨_, u1, v1, e1, _, _⟩ := iface_of_trod Tryd.underlying31 hd1
  refine ⟨⟨u0, v0, ?_⟩, u1, v1, ?_⟩
  · have := World.var?_cell hg0 hv0 0
    rw [Array.eq_one_of_toList e0] at this
    simpa using this
  · have := World.var?_cell hg1 hv1 0
    rw [Array.eq_one_of_toList e1] at this
    simpa using this
end Go.Proofs.Qxb6003994aDoor

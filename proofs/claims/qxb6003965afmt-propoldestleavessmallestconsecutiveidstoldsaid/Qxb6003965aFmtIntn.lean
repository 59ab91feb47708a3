/-
  Seat b6003965aF: uint64n, IntN.
-/
import Derived.Test.Qxb6003965aFmtRand
import Derived.Deep.LoopGhost
namespace Go.Proofs.Qxb6003965aFmt
open Go.RowKit

/-- A number below m has been drawn. -/
def DrawnI (k : IntKind) (m : Int) (w : World) (Sb : Nat) (so : Option Addr) (cp : Nat) (scr : List Int) (e : Ending) (w' : World) : Prop :=
  ∃ x i', e = .returned (.int k x) ∧ 0 ≤ x ∧ x < m ∧ Src w' Sb so cp scr i' ∧ Frm (fun k => k = Sb) w w'

/-- The Rand. -/
def RandAt (w : World) (Rb Sb : Nat) : Prop := w.heap[Rb]? = some (.cells #[.iface 66 (.pointer (some ⟨Sb, 0, none⟩))] 88 (0, 0))
theorem RandAt.cell {w : World} {Rb Sb : Nat} (h : RandAt w Rb Sb) : w.cell? ⟨Rb, 0, none⟩ = some (.iface 66 (.pointer (some ⟨Sb, 0, none⟩))) := cell_of_one h
theorem RandAt.ne {w : World} {Rb Sb : Nat} {so : Option Addr} {cp : Nat} {scr : List Int} {i : Nat} (h : RandAt w Rb Sb) (hs : Src w Sb so cp scr i) : Rb ≠ Sb := by
  intro e; have := hs.box; rw [← e, h] at this; simp at this
theorem RandAt.frm {w w' : World} {Rb Sb : Nat} {so : Option Addr} {cp : Nat} {scr : List Int} {i : Nat} (h : RandAt w Rb Sb) (hs : Src w Sb so cp scr i) (hf : Frm (fun k => k = Sb) w w') : RandAt w' Rb Sb := hf.obj h (h.ne hs)

theorem and_bd (v m : Int) (hv : 0 ≤ v) (hv' : v ≤ 18446744073709551615) (hm : 1 ≤ m) (hm' : m ≤ 1048576) : 0 ≤ bits .and .u64 v (m - 1) ∧ bits .and .u64 v (m - 1) < m := by
  rw [u64_and v (m - 1) hv (by omega) (by omega) (by omega)]
  have := Nat.and_le_right (n := v.toNat) (m := (m - 1).toNat)
  omega

set_option maxHeartbeats 1000000 in
theorem u64n_any (Rb Sb : Nat) (so : Option Addr) (cp : Nat) (scr : List Int) (i : Nat) (m : Int) (w : World) (h : Src w Sb so cp scr i) (hR : RandAt w Rb Sb) (hm : 1 ≤ m) (hm' : m ≤ 1048576) :
    Calls Tryf.prog 60 #[.pointer (some ⟨Rb, 0, none⟩), .int .u64 m] w (DrawnI .u64 m w Sb so cp scr) := by
  have H69 := fun i w h hR => hidP (rand_any Rb Sb so cp scr i w h hR)
  have H17 := fun a w => hidP (mul_any a m w)
  cases hz : (bits BinOp.and IntKind.u64 m (m - 1) == 0)
  · have HS := hidP h
    have HR := hidP hR
    have H1 := hidP (H69 i w h hR.cell)
    clear h hR
    go_enter Tryf.func60, Tryf.ntmps60
    go_wp2_with fail
    refine H1.out.out.mono ?_
    rintro e w1 ⟨v, i', rfl, hv0, hv1, hst, hs, hf⟩
    have HR1 := hidP (HR.out.frm HS.out hf)
    have HS1 := hidP hs
    have HF1 := hidP hf
    clear H1 HR HS hs hf hst
    go_wp2_with fail
    refine (H17 _ _).out.mono ?_
    rintro e w2 ⟨rfl, hw2⟩
    obtain rfl : w1 = w2 := hw2.symm
    obtain ⟨hh0, hh1⟩ := Plain.hi_lt v m hv0 hv1 hm (by omega)
    obtain ⟨hu0, hu1⟩ := Plain.U_bd (v * m)
    by_cases hlt : Plain.U (v * m) < m
    · have hth : (IntKind.u64.wrap (-m)).tmod m < m := Int.tmod_lt_of_pos _ (by omega)
      go_wp2_with fail
      generalize (IntKind.u64.wrap (-m)).tmod m = th at *
      go_loopg [5, 6] (2 * (scr.length - i') + 1) (fun g hi lo wr => ∃ v i', hi = .int .u64 (Plain.mulHi v m) ∧ lo = .int .u64 (Plain.U (v * m)) ∧ 0 ≤ v ∧ v ≤ 18446744073709551615 ∧ RandAt wr Rb Sb ∧ Src wr Sb so cp scr i' ∧ Frm (fun k => k = Sb) w wr ∧ (g = 2 * (scr.length - i') + 1 ∨ (g = 2 * (scr.length - i') ∧ ¬ Plain.U (v * m) < m)))
      case atStart => exact ⟨v, i', rfl, rfl, hv0, hv1, HR1.out, HS1.out, HF1.out, .inl rfl⟩
      case round =>
        clear hh0 hh1 hu0 hu1 hlt hv0 hv1 HR1 HS1 HF1
        obtain ⟨v, i', rfl, rfl, hv0, hv1, hr1, hs1, hf1, hg⟩ := hrel
        have HG := hidP hg
        obtain ⟨hh0, hh1⟩ := Plain.hi_lt v m hv0 hv1 hm (by omega)
        by_cases hlt : Plain.U (v * m) < th
        · have H1 := hidP (H69 i' wr hs1 hr1.cell)
          have HR1 := hidP hr1
          have HS1 := hidP hs1
          have HF1 := hidP hf1
          clear hr1 hs1 hf1 hg
          go_wp2_with fail
          refine H1.out.out.mono ?_
          rintro e w2 ⟨v2, i2, rfl, hv20, hv21, hst, hs2, hf2⟩
          have HR2 := hidP (HR1.out.frm HS1.out hf2)
          have HS2 := hidP hs2
          have HF2 := hidP (HF1.out.trans hf2)
          have HST := hidP hst
          clear H1 hs2 hf2 hst
          go_wp2_with fail
          refine (H17 _ _).out.mono ?_
          rintro e w3 ⟨rfl, hw3⟩
          obtain rfl : w2 = w3 := hw3.symm
          go_wp2
          rcases HST.out with ⟨h1, h2⟩ | ⟨h1, h2⟩
          · go_roundg (2 * (scr.length - i2) + 1)
            case measure => have := HG.out; omega
            case rel => exact ⟨v2, i2, rfl, rfl, hv20, hv21, HR2.out, HS2.out, HF2.out, .inl rfl⟩
          · go_roundg (2 * (scr.length - i2))
            case measure => have := HG.out; omega
            case rel => exact ⟨v2, i2, rfl, rfl, hv20, hv21, HR2.out, HS2.out, HF2.out, .inr ⟨rfl, by rw [h2]; exact Int.not_lt.1 (Plain.fallback m hm (by omega))⟩⟩
        · go_wp2
          go_ret
          exact ⟨_, i', rfl, hh0, hh1, hs1, hf1⟩
    · go_wp2
      go_ret
      exact ⟨_, i', rfl, hh0, hh1, HS1.out, HF1.out⟩
  · have H1 := hidP (H69 i w h hR.cell)
    clear H69 H17 h hR
    go_enter Tryf.func60, Tryf.ntmps60
    go_wp2_with (go_at_call 69; refine H1.out.out.mono ?_; rintro e w1 ⟨v, i', rfl, hv0, hv1, hst, hs, hf⟩)
    go_ret
    have := and_bd v m hv0 hv1 hm hm'
    exact ⟨_, i', rfl, this.1, this.2, hs, hf⟩

set_option maxHeartbeats 400000 in
theorem intn_any (Rb Sb : Nat) (so : Option Addr) (cp : Nat) (scr : List Int) (i : Nat) (m : Int) (w : World) (h : Src w Sb so cp scr i) (hR : RandAt w Rb Sb) (hm : 1 ≤ m) (hm' : m ≤ 1048576) :
    Calls Tryf.prog 44 #[.pointer (some ⟨Rb, 0, none⟩), .int .i64 m] w (DrawnI .i64 m w Sb so cp scr) := by
  have H60 := hidP (u64n_any Rb Sb so cp scr i m w h hR hm hm')
  clear h hR
  go_enter Tryf.func44, Tryf.ntmps44
  go_wp2_with (go_at_call 60; refine H60.out.mono ?_; rintro e w1 ⟨x, i', rfl, hx0, hx1, hs, hf⟩)
  go_ret
  exact ⟨x, i', rfl, hx0, hx1, hs, hf⟩
end Go.Proofs.Qxb6003965aFmt

/-
  Seat b6003965aF: the source of draws; math/rand/v2 over it.
-/
import Derived.Test.Qxb6003965aFmtFrame
import Derived.Test.Qxb6003965aFmtPlain
import Derived.RegionTactic
import Derived.BigRegion
import Derived.Deep.QuietTactic
import Derived.BigQuiet
namespace Go.Proofs.Qxb6003965aFmt
open Go.RowKit

/-- The script's cells. -/
def UAt (w : World) (so : Option Addr) (scr : List Int) : Prop :=
  0 < scr.length → ∃ b off, so = some ⟨b, off, none⟩ ∧ ∀ j, j < scr.length → w.cell? ⟨b, off + j, none⟩ = some (.int .u64 (scr.getD j 0)) ∧ 0 ≤ scr.getD j 0 ∧ scr.getD j 0 ≤ 18446744073709551615

/-- The source: block Sb holds the script and how much of it is spent. -/
structure Src (w : World) (Sb : Nat) (so : Option Addr) (cp : Nat) (scr : List Int) (i : Nat) : Prop where
  box : w.heap[Sb]? = some (.cells #[.slice so scr.length cp, .int .i64 (i : Int)] 69 (0, 0))
  row : UAt w so scr
  le : i ≤ scr.length
  len : scr.length ≤ 1048576

/-- What a draw leaves: a number; the script one step on, or spent. -/
def Drawn (w : World) (Sb : Nat) (so : Option Addr) (cp : Nat) (scr : List Int) (i : Nat) (e : Ending) (w' : World) : Prop :=
  ∃ v i', e = .returned (.int .u64 v) ∧ 0 ≤ v ∧ v ≤ 18446744073709551615 ∧ ((i < scr.length ∧ i' = i + 1) ∨ (i' = i ∧ v = 18446744069414584320)) ∧ Src w' Sb so cp scr i' ∧ Frm (fun k => k = Sb) w w'

theorem Src.ne {w : World} {Sb : Nat} {so : Option Addr} {cp : Nat} {scr : List Int} {i : Nat} (h : Src w Sb so cp scr i) {b off j : Nat} {x : Int} (hc : w.cell? ⟨b, off + j, none⟩ = some (.int .u64 x)) : b ≠ Sb := by
  intro e
  subst e
  rw [cell_of_row _ _ _ _ _ _ h.box] at hc
  rcases hk : off + j with _ | _ | k
  · rw [hk] at hc; simp at hc
  · rw [hk] at hc; simp at hc
  · rw [hk] at hc; simp at hc

theorem Frm.drewN {S : Nat → Prop} {a w : World} (h : Frm S a w) (n : Nat) : Frm S a (w.drewN n) := ⟨h.os, h.tape, h.output, h.size, h.block⟩

set_option maxHeartbeats 400000 in
theorem src_spent (Sb : Nat) (so : Option Addr) (cp : Nat) (scr : List Int) (i : Nat) (w : World) (h : Src w Sb so cp scr i) (hi : ¬ i < scr.length) :
    Calls Tryf.prog 89 #[.pointer (some ⟨Sb, 0, none⟩)] w (Drawn w Sb so cp scr i) := by
  have c0 : w.cell? ⟨Sb, 0, none⟩ = some (.slice so scr.length cp) := by rw [cell_of_row _ _ _ _ _ _ h.box]; rfl
  have c1 : w.cell? ⟨Sb, 1, none⟩ = some (.int .i64 (i : Int)) := by rw [cell_of_row _ _ _ _ _ _ h.box]; rfl
  have hl := h.len
  have H := hidP h
  clear h
  go_enter Tryf.func89, Tryf.ntmps89
  go_wp2
  go_quiet (fail)
  go_wp2
  go_ret
  have h := H.out
  exact ⟨_, i, rfl, by omega, by omega, .inr ⟨rfl, rfl⟩, ⟨h.box, h.row, h.le, h.len⟩, Frm.drewN (Frm.refl _ _) _⟩

theorem Src.step {w : World} {Sb : Nat} {so : Option Addr} {cp : Nat} {scr : List Int} {i : Nat} (h : Src w Sb so cp scr i) (hi : i < scr.length) (n : Nat) : Src ((w.drewN n).setCell ⟨Sb, 1, none⟩ (.int .i64 ((i : Int) + 1))) Sb so cp scr (i + 1) := by
  refine ⟨?_, fun h0 => ?_, by omega, h.len⟩
  · have h1 := heap_setCell_same (w.drewN n) Sb 1 _ 69 (.int .i64 ((i : Int) + 1)) h.box
    rw [h1]; rfl
  · obtain ⟨b, off, e, hc⟩ := h.row h0
    refine ⟨b, off, e, fun j hj => ?_⟩
    obtain ⟨c1, c2, c3⟩ := hc j hj
    refine ⟨?_, c2, c3⟩
    have hne := h.ne c1
    have hb := heap_setCell_other (w.drewN n) ⟨Sb, 1, none⟩ b (.int .i64 ((i : Int) + 1)) hne
    simp only [World.cell?] at c1 ⊢
    rw [hb]; exact c1

set_option maxHeartbeats 400000 in
theorem src_next (Sb : Nat) (so : Option Addr) (cp : Nat) (scr : List Int) (i : Nat) (w : World) (h : Src w Sb so cp scr i) (hi : i < scr.length) :
    Calls Tryf.prog 89 #[.pointer (some ⟨Sb, 0, none⟩)] w (Drawn w Sb so cp scr i) := by
  have hl := h.len
  obtain ⟨b, off, rfl, hc⟩ := h.row (by omega)
  obtain ⟨c2, v0, v1⟩ := hc i hi
  have c0 : w.cell? ⟨Sb, 0, none⟩ = some (.slice (some ⟨b, off, none⟩) scr.length cp) := by rw [cell_of_row _ _ _ _ _ _ h.box]; rfl
  have c1 : w.cell? ⟨Sb, 1, none⟩ = some (.int .i64 (i : Int)) := by rw [cell_of_row _ _ _ _ _ _ h.box]; rfl
  have f1 : w.frozen? ⟨Sb, 1, none⟩ = false := frozen_of_row _ _ _ _ _ h.box
  have H := hidP h
  have hiz : (i : Int) < (scr.length : Int) := by omega
  obtain ⟨v, hv⟩ : ∃ v, v = scr.getD i 0 := ⟨_, rfl⟩
  rw [← hv] at c2 v0 v1
  clear h hc hv
  go_enter Tryf.func89, Tryf.ntmps89
  go_wp2
  go_quiet (fail)
  go_wp2
  go_quiet (fail)
  go_wp2
  go_ret
  exact ⟨_, i + 1, rfl, v0, v1, .inl ⟨hi, rfl⟩, H.out.step hi _, (Frm.drewN (Frm.refl (fun k => k = Sb) w) _).setCell (fun _ => rfl) _⟩
theorem src_any (Sb : Nat) (so : Option Addr) (cp : Nat) (scr : List Int) (i : Nat) (w : World) (h : Src w Sb so cp scr i) :
    Calls Tryf.prog 89 #[.pointer (some ⟨Sb, 0, none⟩)] w (Drawn w Sb so cp scr i) := by
  by_cases hi : i < scr.length
  · exact src_next Sb so cp scr i w h hi
  · exact src_spent Sb so cp scr i w h hi

theorem method_uint64 (a : Addr) (w : World) : Sem.run Tryf.prog (method 243 66 (.pointer (some a)) "Uint64") w = .ok (89, .pointer (some a)) w := by kernel_rfl
set_option maxRecDepth 100000 in
set_option maxHeartbeats 400000 in
theorem rand_any (Rb Sb : Nat) (so : Option Addr) (cp : Nat) (scr : List Int) (i : Nat) (w : World) (h : Src w Sb so cp scr i) (hR : w.cell? ⟨Rb, 0, none⟩ = some (.iface 66 (.pointer (some ⟨Sb, 0, none⟩)))) :
    Calls Tryf.prog 69 #[.pointer (some ⟨Rb, 0, none⟩)] w (Drawn w Sb so cp scr i) := by
  have H := hidP (src_any Sb so cp scr i w h)
  have hm := method_uint64
  clear h
  go_enter Tryf.func69, Tryf.ntmps69
  go_wp2_with (go_at_call 89; refine H.out.mono ?_; rintro e w1 ⟨v, i', rfl, hv0, hv1, hst, hs, hf⟩)
  go_ret
  exact ⟨v, i', rfl, hv0, hv1, hst, hs, hf⟩

set_option maxHeartbeats 400000 in
theorem mul_any (a b : Int) (w : World) :
    Calls Tryf.prog 17 #[.int .u64 a, .int .u64 b] w fun e w' => e = .returned (.tuple #[.int .u64 (Plain.mulHi a b), .int .u64 (Plain.U (a * b))]) ∧ w' = w := by
  go_enter Tryf.func17, Tryf.ntmps17
  go_wp2
  go_ret2
  exact ⟨rfl, rfl⟩
end Go.Proofs.Qxb6003965aFmt

/-
  Seat b6003707a: the two clones.
-/
import Derived.Test.Qxb6003707aScans
namespace Go.Proofs.Qxb6003707a
open Go.RowKit

theorem SAt.below {w w' : World} {ao : Option Addr} {ss : List ByteArray} (h : SAt w ao ss) (hb : Below w.heap.size w w') : SAt w' ao ss := by
  intro h0
  obtain ⟨b, off, rfl, hc⟩ := h h0
  exact ⟨b, off, rfl, fun j hj => (hb.cell (p := ⟨b, off + j, none⟩) (block_lt_of_cell (hc j hj))).trans (hc j hj)⟩
theorem IAt.below {w w' : World} {ao : Option Addr} {zs : List Int} (h : IAt w ao zs) (hb : Below w.heap.size w w') : IAt w' ao zs := by
  intro h0
  obtain ⟨b, off, rfl, hc⟩ := h h0
  exact ⟨b, off, rfl, fun j hj => (hb.cell (p := ⟨b, off + j, none⟩) (block_lt_of_cell (hc j hj))).trans (hc j hj)⟩

theorem Try.info9 : (Try.prog.info? 9).map (fun i => (i.zero, i.size, i.bytes)) = some (some (.string ByteArray.empty), 1, 16) := by kernel_rfl
theorem Try.info3 : (Try.prog.info? 3).map (fun i => (i.zero, i.size, i.bytes)) = some (some (.int .i64 0), 1, 8) := by kernel_rfl

/-- Below k the row's cells are these. -/
def Upto (f : Nat → Value) (xs : List Value) (k : Nat) : Prop := ∀ j, j < k → xs[j]? = some (f j)
theorem Upto.step {f : Nat → Value} {xs : List Value} {k : Nat} (h : Upto f xs k) (hk : k < xs.length) : Upto f (xs.set k (f k)) (k + 1) := by
  intro j hj
  rw [List.getElem?_set]
  by_cases e : k = j
  · subst e; simp [hk]
  · rw [if_neg e]; exact h j (by omega)


/-- What a clone leaves. -/
def ClonedS (w : World) (ss : List ByteArray) (e : Ending) (w' : World) : Prop := ∃ ao' cap', e = .returned (.slice ao' ss.length cap') ∧ SAt w' ao' ss ∧ Below w.heap.size w w'
theorem ClonedS.intro {w w' : World} {ss : List ByteArray} {e : Ending} (ao' : Option Addr) (cap' : Nat) (h : e = .returned (.slice ao' ss.length cap')) (h2 : SAt w' ao' ss) (h3 : Below w.heap.size w w') : ClonedS w ss e w' := ⟨ao', cap', h, h2, h3⟩
set_option maxHeartbeats 400000 in
theorem cloneS_any (ao : Option Addr) (cap : Nat) (ss : List ByteArray) (w : World) (hc : SAt w ao ss) (hl : ss.length ≤ 1048576) (hn : ao = none → cap = 0) :
    Calls Try.prog 16 #[.slice ao ss.length cap] w (ClonedS w ss) := by
  have heq := fun w a n c => Lib.run_eql_slice_nil (P := Try.prog) w 32 9 a n c 0 0 Try.underlying32
  cases ao with
  | none =>
    have h0 : ss.length = 0 := by
      by_cases h : 0 < ss.length
      · obtain ⟨b, off, h1, _⟩ := hc h; simp at h1
      · omega
    have hcap := hn rfl
    subst hcap
    have HH : Hid (Value.slice none 0 0 = Value.slice none ss.length 0) := by rw [h0]; rfl
    have hv : Value.slice none ss.length 0 = Value.slice none 0 0 := HH.out.symm
    rw [hv]
    clear hv
    go_enter Try.func16, Try.ntmps16
    go_wp2
    go_ret
    exact ClonedS.intro none 0 (congrArg Ending.returned HH.out) (fun h => by omega) (Below.refl _ _)
  | some a =>
    obtain ⟨i0, hi, hz0, hz1, hz2⟩ := info_parts Try.info9
    clear hn
    go_enter Try.func16, Try.ntmps16
    go_wp2_with (first
      | (at_make; refine wpList_make_full _ rfl _ _ 32 rfl w.heap.size 9 i0 (.string ByteArray.empty) 1 Try.underlying32 hi hz0 hz1 .i64 .i64 _ _ ss.length rfl rfl rfl rfl (by rw [hz2]; omega) (by unfold maxLen; omega) (Nat.le_refl _) ?_; intro w1 hown hgrow)
      | go_in)
    have hB1 : Below w.heap.size w w1 := (Below.refl _ _).grown hgrow (Nat.le_refl _) (fun k h => by cases h)
    clear hgrow heq hi hz0 hz1 hz2
    go_loopw [4] (fun i wr => ∃ k : Nat, k ≤ ss.length ∧ i = .int .i64 k ∧ Below w.heap.size w wr ∧ ∃ xs, wr.ownsRow w.heap.size 9 1 (.slice (some ⟨w.heap.size, 0, none⟩) ss.length ss.length) ss.length xs ∧ Upto (fun j => .string (ss.getD j ByteArray.empty)) xs k) (fun i _ => ss.length - (intOf i).toNat)
    case atStart => exact ⟨0, Nat.zero_le _, rfl, hB1, _, hown, fun j hj => by omega⟩
    case round =>
      obtain ⟨k, hk, rfl, hb, xs, hown2, hup⟩ := hrel
      clear hown hB1
      by_cases hlt : k < ss.length
      · obtain ⟨b, off, ha, hcell⟩ := hc (by omega)
        simp only [Option.some.injEq] at ha
        subst ha
        have hxl : xs.length = ss.length := by simpa using hown2.1
        have hck : wr.cell? ⟨b, off + k, none⟩ = some (.string (ss.getD k ByteArray.empty)) := (hb.cell (p := ⟨b, off + k, none⟩) (block_lt_of_cell (hcell k hlt))).trans (hcell k hlt)
        have hdk := hown2.cellAt k (by omega)
        obtain ⟨x0, hx0⟩ : ∃ x0, xs[k]? = some x0 := ⟨_, List.getElem?_eq_getElem (by omega)⟩
        rw [hx0] at hdk
        have hfk := hown2.frozenAt k
        obtain ⟨s, hs⟩ : ∃ s, s = ss.getD k ByteArray.empty := ⟨_, rfl⟩
        rw [← hs] at hck
        have R := hown2.stored k (.string s)
        have R2 : Hid (Upto (fun j => .string (ss.getD j ByteArray.empty)) (xs.set k (.string s)) (k + 1)) := by rw [hs]; exact hup.step (by omega)
        have R3 : Hid (Below w.heap.size w (wr.setCell ⟨w.heap.size, k, none⟩ (.string s))) := hb.grown R.2 hb.size (fun j h => by cases h; exact Nat.le_refl _)
        have R1 : Hid ((wr.setCell ⟨w.heap.size, k, none⟩ (.string s)).ownsRow w.heap.size 9 1 (.slice (some ⟨w.heap.size, 0, none⟩) ss.length ss.length) ss.length (xs.set k (.string s))) := R.1
        clear hs R hup hcell hc hb hown2 hxl hx0
        go_wp2
        go_roundw
        case rel => exact ⟨k + 1, by omega, by go_num, R3.out, _, R1.out, R2.out⟩
        case measure => simp [intOf]; omega
      · go_wp2
        go_ret
        refine ClonedS.intro _ _ rfl (fun h0 => ⟨_, 0, rfl, fun j hj => ?_⟩) hb
        have h1 := hown2.cellAt j (by omega)
        rw [hup j (by omega)] at h1
        simpa using h1

/-- What a clone leaves. -/
def ClonedI (w : World) (zs : List Int) (e : Ending) (w' : World) : Prop := ∃ ao' cap', e = .returned (.slice ao' zs.length cap') ∧ IAt w' ao' zs ∧ Below w.heap.size w w'
theorem ClonedI.intro {w w' : World} {zs : List Int} {e : Ending} (ao' : Option Addr) (cap' : Nat) (h : e = .returned (.slice ao' zs.length cap')) (h2 : IAt w' ao' zs) (h3 : Below w.heap.size w w') : ClonedI w zs e w' := ⟨ao', cap', h, h2, h3⟩
set_option maxHeartbeats 400000 in
theorem cloneI_any (ao : Option Addr) (cap : Nat) (zs : List Int) (w : World) (hc : IAt w ao zs) (hl : zs.length ≤ 1048576) (hn : ao = none → cap = 0) :
    Calls Try.prog 17 #[.slice ao zs.length cap] w (ClonedI w zs) := by
  have heq := fun w a n c => Lib.run_eql_slice_nil (P := Try.prog) w 33 3 a n c 0 0 Try.underlying33
  cases ao with
  | none =>
    have h0 : zs.length = 0 := by
      by_cases h : 0 < zs.length
      · obtain ⟨b, off, h1, _⟩ := hc h; simp at h1
      · omega
    have hcap := hn rfl
    subst hcap
    have HH : Hid (Value.slice none 0 0 = Value.slice none zs.length 0) := by rw [h0]; rfl
    have hv : Value.slice none zs.length 0 = Value.slice none 0 0 := HH.out.symm
    rw [hv]
    clear hv
    go_enter Try.func17, Try.ntmps17
    go_wp2
    go_ret
    exact ClonedI.intro none 0 (congrArg Ending.returned HH.out) (fun h => by omega) (Below.refl _ _)
  | some a =>
    obtain ⟨i0, hi, hz0, hz1, hz2⟩ := info_parts Try.info3
    clear hn
    go_enter Try.func17, Try.ntmps17
    go_wp2_with (first
      | (at_make; refine wpList_make_full _ rfl _ _ 33 rfl w.heap.size 3 i0 (.int .i64 0) 1 Try.underlying33 hi hz0 hz1 .i64 .i64 _ _ zs.length rfl rfl rfl rfl (by rw [hz2]; omega) (by unfold maxLen; omega) (Nat.le_refl _) ?_; intro w1 hown hgrow)
      | go_in)
    have hB1 : Below w.heap.size w w1 := (Below.refl _ _).grown hgrow (Nat.le_refl _) (fun k h => by cases h)
    clear hgrow heq hi hz0 hz1 hz2
    go_loopw [4] (fun i wr => ∃ k : Nat, k ≤ zs.length ∧ i = .int .i64 k ∧ Below w.heap.size w wr ∧ ∃ xs, wr.ownsRow w.heap.size 3 1 (.slice (some ⟨w.heap.size, 0, none⟩) zs.length zs.length) zs.length xs ∧ Upto (fun j => .int .i64 (zs.getD j 0)) xs k) (fun i _ => zs.length - (intOf i).toNat)
    case atStart => exact ⟨0, Nat.zero_le _, rfl, hB1, _, hown, fun j hj => by omega⟩
    case round =>
      obtain ⟨k, hk, rfl, hb, xs, hown2, hup⟩ := hrel
      clear hown hB1
      by_cases hlt : k < zs.length
      · obtain ⟨b, off, ha, hcell⟩ := hc (by omega)
        simp only [Option.some.injEq] at ha
        subst ha
        have hxl : xs.length = zs.length := by simpa using hown2.1
        have hck : wr.cell? ⟨b, off + k, none⟩ = some (.int .i64 (zs.getD k 0)) := (hb.cell (p := ⟨b, off + k, none⟩) (block_lt_of_cell (hcell k hlt))).trans (hcell k hlt)
        have hdk := hown2.cellAt k (by omega)
        obtain ⟨x0, hx0⟩ : ∃ x0, xs[k]? = some x0 := ⟨_, List.getElem?_eq_getElem (by omega)⟩
        rw [hx0] at hdk
        have hfk := hown2.frozenAt k
        obtain ⟨s, hs⟩ : ∃ s, s = zs.getD k 0 := ⟨_, rfl⟩
        rw [← hs] at hck
        have R := hown2.stored k (.int .i64 s)
        have R2 : Hid (Upto (fun j => .int .i64 (zs.getD j 0)) (xs.set k (.int .i64 s)) (k + 1)) := by rw [hs]; exact hup.step (by omega)
        have R3 : Hid (Below w.heap.size w (wr.setCell ⟨w.heap.size, k, none⟩ (.int .i64 s))) := hb.grown R.2 hb.size (fun j h => by cases h; exact Nat.le_refl _)
        have R1 : Hid ((wr.setCell ⟨w.heap.size, k, none⟩ (.int .i64 s)).ownsRow w.heap.size 3 1 (.slice (some ⟨w.heap.size, 0, none⟩) zs.length zs.length) zs.length (xs.set k (.int .i64 s))) := R.1
        clear hs R hup hcell hc hb hown2 hxl hx0
        go_wp2
        go_roundw
        case rel => exact ⟨k + 1, by omega, by go_num, R3.out, _, R1.out, R2.out⟩
        case measure => simp [intOf]; omega
      · go_wp2
        go_ret
        refine ClonedI.intro _ _ rfl (fun h0 => ⟨_, 0, rfl, fun j hj => ?_⟩) hb
        have h1 := hown2.cellAt j (by omega)
        rw [hup j (by omega)] at h1
        simpa using h1
end Go.Proofs.Qxb6003707a

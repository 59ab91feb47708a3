/-
  Seat b6003965aF: rows of int64 of the call's own; the sort; zzInitial, zzAscending.
-/
import Derived.Test.Qxb6003965aFmtFrame
import Derived.Test.Qxb6003965aFmtSortLay
import Derived.Sort.OwnSortedInts
import Derived.RegionTactic
import Derived.BigRegion
import Derived.Deep.QuietTactic
import Derived.BigQuiet
namespace Go.Proofs.Qxb6003965aFmt
open Go.RowKit

/-- Block B is a row of cap cells, of which the first hold zs. -/
def IRow (w : World) (B cap : Nat) (zs : List Int) : Prop :=
  ∃ cur, w.heap[B]? = some (.cells cur 2 (0, 0)) ∧ cur.size = cap ∧ zs.length ≤ cap ∧ cap ≤ maxLen ∧ cur.toList.take zs.length = zs.map (Value.int .i64)

variable {w w' : World} {B cap : Nat} {zs : List Int} {S : Nat → Prop}
theorem IRow.lt (h : IRow w B cap zs) : B < w.heap.size := by obtain ⟨cur, h1, _⟩ := h; exact lt_of_block h1
theorem IRow.frm (h : IRow w B cap zs) (hf : Frm S w w') (hs : ¬ S B) : IRow w' B cap zs := by
  obtain ⟨cur, h1, h2⟩ := h
  exact ⟨cur, hf.obj h1 hs, h2⟩
theorem IRow.cell (h : IRow w B cap zs) {j : Nat} (hj : j < zs.length) : w.cell? ⟨B, j, none⟩ = some (.int .i64 (zs.getD j 0)) := by
  obtain ⟨cur, h1, h2, h3, h4, h5⟩ := h
  rw [cell_of_row _ _ _ _ _ _ h1]
  have h6 : (cur.toList.take zs.length)[j]? = (zs.map (Value.int .i64))[j]? := by rw [h5]
  rw [List.getElem?_take_of_lt hj, Array.getElem?_toList] at h6
  rw [h6, List.getElem?_map, List.getD, List.getElem?_eq_getElem hj]; rfl
theorem IRow.frozen (h : IRow w B cap zs) (j : Nat) : w.frozen? ⟨B, j, none⟩ = false := by
  obtain ⟨cur, h1, _⟩ := h; exact frozen_of_row _ _ _ _ _ h1
theorem IRow.set (h : IRow w B cap zs) (j : Nat) (x : Int) : IRow (w.setCell ⟨B, j, none⟩ (.int .i64 x)) B cap (zs.set j x) := by
  obtain ⟨cur, h1, h2, h3, h4, h5⟩ := h
  refine ⟨cur.setIfInBounds j (.int .i64 x), heap_setCell_same w B j cur 2 _ h1, by simpa using h2, by simpa using h3, h4, ?_⟩
  rw [List.length_set, Array.toList_setIfInBounds, List.take_set, h5, List.map_set]
theorem IRow.of_owns {base n : Nat} (h : w.ownsRow base 2 1 (.slice (some ⟨B, 0, none⟩) n cap) n (zs.map (Value.int .i64))) : IRow w B cap zs ∧ n = zs.length := by
  have hl : zs.length = n := by have := h.1; simpa using this
  rcases h.2 with ⟨h', _⟩ | ⟨g, c, cur, h', hb, hg, h3, h4, h5, h6⟩
  · simp at h'
  · simp only [Value.slice.injEq, Option.some.injEq, Addr.mk.injEq, and_true, true_and] at h'
    obtain ⟨rfl, rfl⟩ := h'
    exact ⟨⟨cur, hg, by omega, by omega, h4, by rw [hl]; simpa using h6⟩, hl.symm⟩
theorem IRow.owns (h : IRow w B cap zs) (base : Nat) (hb : base ≤ B) : w.ownsRow base 2 1 (.slice (some ⟨B, 0, none⟩) zs.length cap) zs.length (zs.map (Value.int .i64)) := by
  obtain ⟨cur, h1, h2, h3, h4, h5⟩ := h
  exact ⟨by simp, .inr ⟨B, cap, cur, rfl, hb, h1, h3, h4, by omega, by simpa using h5⟩⟩

/-- The sorted list. -/
def srt (zs : List Int) : List Int := zs.mergeSort fun x y => decide (x ≤ y)

theorem sort_any (B cap : Nat) (zs : List Int) (w : World) (h : IRow w B cap zs) (hl : zs.length ≤ 1048576) :
    Calls Tryf.prog 14 #[.slice (some ⟨B, 0, none⟩) zs.length cap] w fun e w' => e = .returned (.tuple #[]) ∧ IRow w' B cap (srt zs) ∧ Frm (fun k => k = B) w w' := by
  have hlt := h.lt
  obtain ⟨cur, h1, h2, h3, h4, h5⟩ := h
  have hcon := AnyM.slices_Sort_int sortLaid B 0 cap zs w (holds_of_blockI h1 h5) hlt (by omega)
  change Calls Tryf.prog 14 _ _ _ at hcon
  refine hcon.mono ?_
  rintro e w' ⟨rfl, n, os, rfl⟩
  have hls : (srt zs).length = zs.length := List.length_mergeSort zs
  refine ⟨rfl, ⟨_, heap_sortedI _ h1, by simp [Sort.putCells, h2], by omega, h4, ?_⟩, Frm.of_grown (grownBy_sortedI _) (fun k e _ => by cases e; rfl)⟩
  exact take_putCellsI cur (srt zs) (by omega)

theorem Tryf.info2 : (Tryf.prog.info? 2).map (fun i => (i.zero, i.size, i.bytes)) = some (some (.int .i64 0), 1, 8) := by kernel_rfl

/-- The numbers from a on, n of them. -/
def consec (a : Int) (n : Nat) : List Int := (List.range n).map fun i : Nat => a + (i : Int)
theorem consec_len (a : Int) (n : Nat) : (consec a n).length = n := by simp [consec]
theorem consec_get (a : Int) (n j : Nat) (h : j < n) : (consec a n).getD j 0 = a + (j : Int) := by
  simp [consec, List.getD, h]

theorem list_ext {xs ys : List Int} (h : xs.length = ys.length) (hg : ∀ j, j < xs.length → xs.getD j 0 = ys.getD j 0) : xs = ys := by
  apply List.ext_getElem h
  intro j h1 h2
  have := hg j h1
  simpa [List.getD, h1, h2] using this
theorem getD_set (xs : List Int) (k j : Nat) (x : Int) (hk : k < xs.length) : (xs.set k x).getD j 0 = if k = j then x else xs.getD j 0 := by
  simp only [List.getD, List.getElem?_set]
  by_cases e : k = j
  · subst e; simp [hk]
  · simp [e]
theorem made_zeros (n : Nat) : (madeCells (Value.int .i64 0).cells (n * 1)).toList = (List.replicate n (0 : Int)).map (Value.int .i64) := by
  apply List.ext_getElem
  · simp [madeCells]
  · intro j h1 h2
    simp [madeCells, Value.cells, Nat.mod_one]

set_option maxHeartbeats 400000 in
theorem initial_any (n : Nat) (w : World) (hn : n ≤ 1048576) :
    Calls Tryf.prog 12 #[.int .i64 (n : Int)] w fun e w' => e = .returned (.slice (some ⟨w.heap.size, 0, none⟩) n n) ∧ IRow w' w.heap.size n (consec 0 n) ∧ Below w.heap.size w w' := by
  obtain ⟨i0, hi, hz0, hz1, hz2⟩ := info_parts Tryf.info2
  go_enter Tryf.func12, Tryf.ntmps12
  go_wp2_with (first
    | (at_make; refine wpList_make_full _ rfl _ _ 39 rfl w.heap.size 2 i0 (.int .i64 0) 1 Tryf.underlying39 hi hz0 hz1 .i64 .i64 _ _ n rfl rfl rfl rfl (by rw [hz2]; omega) (by unfold maxLen; omega) (Nat.le_refl _) ?_; intro w1 hown hgrow)
    | go_in)
  have hB1 : Below w.heap.size w w1 := (Below.refl _ _).grown hgrow (Nat.le_refl _) (fun k h => by cases h)
  rw [made_zeros] at hown
  have hI := (IRow.of_owns hown).1
  clear hgrow hi hz0 hz1 hz2 hown
  go_loopw [9] (fun i wr => ∃ k : Nat, k ≤ n ∧ i = .int .i64 k ∧ Below w.heap.size w wr ∧ ∃ xs, IRow wr w.heap.size n xs ∧ xs.length = n ∧ ∀ j, j < k → xs.getD j 0 = (j : Int)) (fun i _ => n - (intOf i).toNat)
  case atStart => exact ⟨0, Nat.zero_le _, rfl, hB1, _, hI, by simp, fun j hj => by omega⟩
  case round =>
    obtain ⟨k, hk, rfl, hb, xs, hx, hxl, hup⟩ := hrel
    clear hI hB1
    by_cases hlt : k < n
    · have hd := hx.cell (j := k) (by omega)
      have hf := hx.frozen k
      have R1 := hidP (hx.set k (k : Int))
      have R2 := hidP (hb.setCell (p := ⟨w.heap.size, k, none⟩) (Nat.le_refl _) (.int .i64 (k : Int)))
      have R3 : Hid (∀ j, j < k + 1 → (xs.set k (k : Int)).getD j 0 = (j : Int)) := fun j hj => by
        rw [getD_set xs k j _ (by omega)]
        by_cases e : k = j
        · rw [if_pos e, e]
        · rw [if_neg e]; exact hup j (by omega)
      have R4 : Hid ((xs.set k (k : Int)).length = n) := by rw [Hid, List.length_set]; exact hxl
      clear hup hxl hx hb
      go_wp2
      go_roundw
      case rel => exact ⟨k + 1, by omega, by go_num, R2.out, _, R1.out, R4.out, R3.out⟩
      case measure => simp [intOf]; omega
    · have he : xs = consec 0 n := list_ext (by rw [hxl, consec_len]) (fun j hj => by rw [hup j (by omega), consec_get 0 n j (by omega)]; omega)
      rw [he] at hx
      clear he hup hxl
      go_wp2
      go_ret
      exact ⟨rfl, hx, hb⟩

/-- Each greater than the one ahead of it. -/
def Asc (zs : List Int) : Prop := ∀ j, j + 1 < zs.length → zs.getD j 0 < zs.getD (j + 1) 0

set_option maxHeartbeats 400000 in
theorem asc_any (B cap : Nat) (zs : List Int) (w : World) (h : IRow w B cap zs) (hl : zs.length ≤ 1048576) (ha : Asc zs) :
    Calls Tryf.prog 15 #[.slice (some ⟨B, 0, none⟩) zs.length cap] w fun e w' => e = .returned (.bool true) ∧ ∃ n, w' = w.drewN n := by
  have H := hidP h
  have HA := hidP ha
  clear h ha
  go_enter Tryf.func15, Tryf.ntmps15
  go_wp2
  go_loopw [3] (fun i wr => ∃ k : Nat, 1 ≤ k ∧ i = .int .i64 k ∧ (k ≤ zs.length ∨ k = 1) ∧ ∃ n, wr = w.drewN n) (fun i _ => zs.length - (intOf i).toNat)
  case atStart => exact ⟨1, Nat.le_refl _, rfl, .inr rfl, 0, rfl⟩
  case round =>
    obtain ⟨k, hk, rfl, hkl, n, rfl⟩ := hrel
    by_cases hlt : k < zs.length
    · obtain ⟨k, rfl⟩ : ∃ q, k = q + 1 := ⟨k - 1, by omega⟩
      have c1 := H.out.cell (j := k) (by omega)
      have c2 := H.out.cell (j := k + 1) (by omega)
      have hlt2 := HA.out k hlt
      have e1 : ((k + 1 : Nat) : Int) - 1 = (k : Int) := by omega
      obtain ⟨x, hx⟩ : ∃ x, x = zs.getD k 0 := ⟨_, rfl⟩
      obtain ⟨y, hy⟩ : ∃ y, y = zs.getD (k + 1) 0 := ⟨_, rfl⟩
      rw [← hx] at c1 hlt2
      rw [← hy] at c2 hlt2
      clear hx hy
      go_wp2
      go_quiet (fail)
      go_wp2
      go_roundw
      case rel => exact ⟨k + 1 + 1, by omega, by go_num, .inl (by omega), n + nq, rfl⟩
      case measure => simp [intOf]; omega
    · go_wp2
      go_ret
      exact ⟨rfl, n, rfl⟩
end Go.Proofs.Qxb6003965aFmt

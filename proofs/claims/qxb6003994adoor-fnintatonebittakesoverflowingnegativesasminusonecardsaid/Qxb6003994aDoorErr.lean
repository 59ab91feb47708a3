/-
  Seat b6003994aD: stringslite.Clone, strconv.syntaxError, rangeError (after the shelf's walks), '==' and '!=' between errors of one integer type.
-/
import Derived.Test.Qxb6003994aDoorPUint
import Derived.LaidEql
import Derived.Lib.BufferWrite
import Derived.Lib.UnsafeStr
import Derived.Lib.AtoiErrMem
import Derived.Laws.MakeOwn
import Derived.RegionTactic
import Derived.Deep.RegionWith
namespace Go.Proofs.Qxb6003994aDoor
open Go.RowKit

section
variable {P : Program} (w : World)
theorem equalIn_iface_int (d : Nat) {ti tn : TypeId} {ms : Array (String × TypeId)} {i : TypeInfo} {k : IntKind} (a b : Int)
    (hi : P.underlying ti = some (.interface ms)) (hn : P.underlying tn = some (.int k)) (hinfo : P.info? tn = some i) (hcomp : i.comparable = true) :
    (Op.equalIn (d + 2) ti (.iface tn (.int k a)) (.iface tn (.int k b))).run P w = .ok (a == b) w := by
  simp [Op.equalIn, run_underlying hi, run_underlying hn, typeInfo, hinfo, hcomp]
theorem eql_iface_int {ti tn : TypeId} {ms : Array (String × TypeId)} {i : TypeInfo} {k : IntKind} (a b : Int)
    (hi : P.underlying ti = some (.interface ms)) (hn : P.underlying tn = some (.int k)) (hinfo : P.info? tn = some i) (hcomp : i.comparable = true) :
    (binOp .eql ti (.iface tn (.int k a)) (.iface tn (.int k b))).run P w = .ok (.bool (a == b)) w := by
  simp only [binOp]
  simp [Op.equal, Op.maxDepth, equalIn_iface_int w 9998 a b hi hn hinfo hcomp]
theorem neq_iface_int {ti tn : TypeId} {ms : Array (String × TypeId)} {i : TypeInfo} {k : IntKind} (a b : Int)
    (hi : P.underlying ti = some (.interface ms)) (hn : P.underlying tn = some (.int k)) (hinfo : P.info? tn = some i) (hcomp : i.comparable = true) :
    (binOp .neq ti (.iface tn (.int k a)) (.iface tn (.int k b))).run P w = .ok (.bool (!(a == b))) w := by
  simp only [binOp]
  simp [Op.equal, Op.maxDepth, equalIn_iface_int w 9998 a b hi hn hinfo hcomp]
end

theorem Tryd.info5 : (Tryd.prog.info? 5).map (fun i => (i.zero, i.size, i.bytes)) = some (some (.int .u8 0), 1, 1) := by kernel_rfl
theorem Tryd.info41 : (Tryd.prog.info? 41).map (fun i => i.comparable) = some true := by kernel_rfl

/-- 'x == y', 'x != y' of two such errors of this program. -/
theorem eqlE (w : World) (a b : Int) : (binOp .eql 31 (.iface 41 (.int .i64 a)) (.iface 41 (.int .i64 b))).run Tryd.prog w = .ok (.bool (a == b)) w := by
  obtain ⟨i, hi, hc⟩ := Option.map_eq_some_iff.1 Tryd.info41
  exact eql_iface_int w a b Tryd.underlying31 Tryd.underlying41 hi hc
theorem neqE (w : World) (a b : Int) : (binOp .neq 31 (.iface 41 (.int .i64 a)) (.iface 41 (.int .i64 b))).run Tryd.prog w = .ok (.bool (!(a == b))) w := by
  obtain ⟨i, hi, hc⟩ := Option.map_eq_some_iff.1 Tryd.info41
  exact neq_iface_int w a b Tryd.underlying31 Tryd.underlying41 hi hc

set_option maxHeartbeats 4000000 in
set_option maxRecDepth 100000 in
theorem clone_any (s : ByteArray) (w : World) (hlim : s.size ≤ 1048576) :
    Calls Tryd.prog 32 #[.string s] w fun e w' => e = .returned (.string s) ∧ Below w.heap.size w w' := by
  by_cases h0 : s.size = 0
  · have hs : s = ⟨#[]⟩ := by
      apply ByteArray.ext
      exact Array.eq_empty_of_size_eq_zero h0
    subst hs
    go_enter Tryd.func32, Tryd.ntmps32
    go_wp2
    go_ret
    exact ⟨rfl, Below.refl _ _⟩
  · obtain ⟨i0, hi, hz0, hz1, hz2⟩ := info_parts Tryd.info5
    have hinfo : (Tryd.prog.info? 5).map (·.size) = some 1 := by rw [hi]; simp [hz1]
    have hco : Tryd.prog.cellsOf 5 = 1 := by simp [Program.cellsOf, hi, hz1]
    obtain ⟨M, hM⟩ : ∃ M, M = madeCells (Value.int .u8 0).cells (((s.size : Nat) : Int).toNat * i0.size) := ⟨_, rfl⟩
    have hMs : M.size = s.size := by rw [hM, size_madeCells, hz1]; simp
    have hmk : ∀ W : World, (Instr.makeSlice 43 (.int .i64 (s.size : Int)) (.int .i64 (s.size : Int))).run Tryd.prog W = .ok (.slice (some ⟨W.heap.size, 0, none⟩) s.size s.size) (W.alloc (.cells M 5)) := fun W => by
      have h := run_make (P := Tryd.prog) W 43 5 i0 (.int .u8 0) Tryd.underlying43 hi hz0 .i64 .i64 (s.size : Int) (s.size : Int) (by omega) (by omega) (by rw [hz2]; omega) (by omega)
      rw [← hM] at h
      simpa using h
    clear hM
    have hcp := Lib.run_copy_row_string (P := Tryd.prog) (w.alloc (.cells M 5)) 43 9 3 5 w.heap.size 0 s.size s.size s M 5 Tryd.underlying43 hinfo (heap_alloc_new w _) (Nat.le_refl _) (by omega)
    obtain ⟨Y, hY⟩ : ∃ Y, Y = (M.toList.take 0 ++ Lib.byteCells s.data.toList ++ M.toList.drop (0 + s.size)).toArray := ⟨_, rfl⟩
    rw [← hY] at hcp
    have hYl : Y.toList = Lib.byteCells s.data.toList := by
      rw [hY, List.toList_toArray, List.take_zero, List.nil_append, List.drop_of_length_le (by rw [Array.length_toList]; omega), List.append_nil]
    have hYs : Y.size = s.size := by rw [← Array.length_toList, hYl, Lib.byteCells_length, ← Lib.size_eq]
    have hgY : ((w.alloc (.cells M 5)).setRow w.heap.size Y).heap[w.heap.size]? = some (.cells Y 5 (0, 0)) := setRow_heap _ _ M _ 5 (0, 0) (heap_alloc_new w _)
    have hne : s.data.toList ≠ [] := fun e => h0 (by rw [Lib.size_eq, e]; rfl)
    have hUS := Lib.run_unsafeString_row (P := Tryd.prog) ((w.alloc (.cells M 5)).setRow w.heap.size Y) 53 3 9 5 Tryd.underlying53 hco w.heap.size Y.size (by unfold World.shape?; rw [hgY]) s.data.toList hne (by rw [← Lib.size_eq]; omega) (by rw [← Lib.size_eq]; omega) (fun j x hx => Lib.cells_of_row hgY Y.size j _ (by rw [List.take_of_length_le (by rw [Array.length_toList]; exact Nat.le_refl _), hYl]; simp [Lib.byteCells, hx]))
    rw [← Lib.size_eq] at hUS
    clear hY
    go_enter Tryd.func32, Tryd.ntmps32
    go_wp2
    go_ret
    have hb1 : Below w.heap.size w (w.alloc (.cells M 5)) := (Below.refl _ w).alloc (Nat.le_refl _) _
    have hb2 : Below w.heap.size (w.alloc (.cells M 5)) ((w.alloc (.cells M 5)).setRow w.heap.size Y) := ⟨rfl, rfl, rfl, by simp, fun k hk => setRow_other _ _ _ _ (by omega)⟩
    exact ⟨rfl, Lib.below_freeze (hb1.trans hb2) (p := ⟨w.heap.size, 0, none⟩) (Nat.le_refl _) _⟩

/-- A pointer; of what was there nothing has turned. -/
def PtrPost (w : World) (e : Ending) (w' : World) : Prop := ∃ N, e = .returned (.pointer (some N)) ∧ Below w.heap.size w w'
theorem PtrPost.intro {w : World} {e : Ending} {w' : World} (N : Addr) (h : e = .returned (.pointer (some N))) (hb : Below w.heap.size w w') : PtrPost w e w' := ⟨N, h, hb⟩

set_option maxHeartbeats 6400000 in
set_option maxRecDepth 100000 in
theorem syntaxError_any (fn s : ByteArray) (te : TypeId) (pe : Value) (w : World) (hlim : s.size ≤ 1048576) (hv : w.cell? ⟨0, 0, none⟩ = some (.iface te pe)) :
    Calls Tryd.prog 27 #[.string fn, .string s] w (PtrPost w) := by
  have hG : 0 < w.heap.size := Lib.lt_of_cell hv
  have hvd : w.drew.cell? ⟨0, 0, none⟩ = some (.iface te pe) := hv
  go_enter Tryd.func27, Tryd.ntmps27
  go_wp2
  go_region_with (
      go_at_call 32
      refine (clone_any s _ hlim).mono ?_
      rintro e w2 ⟨rfl, hbel⟩
      have hv2 : w2.cell? ⟨0, 0, none⟩ = some (.iface te pe) := (hbel.cell (show (⟨0, 0, none⟩ : Addr).block < w.drew.heap.size from hG)).trans hvd)
  all_goals (
    go_wp2
    go_ret
    have hs2 : w.heap.size ≤ w2.heap.size := hbel.size
    exact PtrPost.intro _ rfl (((Below.drew (Below.refl _ w)).trans hbel).alloc hs2 _))

set_option maxHeartbeats 6400000 in
set_option maxRecDepth 100000 in
theorem rangeError_any (fn s : ByteArray) (te : TypeId) (pe : Value) (w : World) (hlim : s.size ≤ 1048576) (hv : w.cell? ⟨1, 0, none⟩ = some (.iface te pe)) :
    Calls Tryd.prog 28 #[.string fn, .string s] w (PtrPost w) := by
  have hG : 1 < w.heap.size := Lib.lt_of_cell hv
  have hvd : w.drew.cell? ⟨1, 0, none⟩ = some (.iface te pe) := hv
  go_enter Tryd.func28, Tryd.ntmps28
  go_wp2
  go_region_with (
      go_at_call 32
      refine (clone_any s _ hlim).mono ?_
      rintro e w2 ⟨rfl, hbel⟩
      have hv2 : w2.cell? ⟨1, 0, none⟩ = some (.iface te pe) := (hbel.cell (show (⟨1, 0, none⟩ : Addr).block < w.drew.heap.size from hG)).trans hvd)
  all_goals (
    go_wp2
    go_ret
    have hs2 : w.heap.size ≤ w2.heap.size := hbel.size
    exact PtrPost.intro _ rfl (((Below.drew (Below.refl _ w)).trans hbel).alloc hs2 _))
end Go.Proofs.Qxb6003994aDoor

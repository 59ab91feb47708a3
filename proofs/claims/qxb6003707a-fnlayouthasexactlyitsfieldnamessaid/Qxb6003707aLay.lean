/-
  Seat b6003707a: ofd.NewLayout.
-/
import Derived.Test.Qxb6003707aClones
import Derived.Maps.OwnSet
import Derived.RegionTactic
import Derived.BigRegion
import Derived.Deep.QuietTactic
import Derived.BigQuiet
namespace Go.Proofs.Qxb6003707a
open Go.RowKit Go.WideMaps Go.Maps

/-- The slice value at 'ao' holds n fields with these names and widths. -/
def FAt (w : World) (ao : Option Addr) (ss : List ByteArray) (zs : List Int) : Prop :=
  0 < zs.length → ∃ b off, ao = some ⟨b, off, none⟩ ∧ ∀ j, j < zs.length →
    w.cell? ⟨b, off + j * 4, none⟩ = some (.string (ss.getD j ByteArray.empty)) ∧ w.cell? ⟨b, off + j * 4 + 1, none⟩ = some (.string ⟨#[65]⟩) ∧
    w.cell? ⟨b, off + j * 4 + 2, none⟩ = some (.int .i64 (zs.getD j 0)) ∧ w.cell? ⟨b, off + j * 4 + 3, none⟩ = some (.int .i64 0)

theorem law : Keyed Try.prog 9 := string_keyed Try.underlying9
theorem zero3 (w : World) : (zeroValue 3).run Try.prog w = .ok (.int .i64 0) w := by kernel_rfl

theorem mkMap (n : Nat) (w : World) : (Instr.makeMap 59 (some (.int .i64 (n : Int)))).run Try.prog w = .ok (.map (some w.heap.size)) (w.alloc (.map #[] 0)) := by
  simp [Instr.makeMap, run_underlying Try.underlying59, asInt, asIntOf]

def keyAt (ss : List ByteArray) (j : Nat) : Lit := .string (ss.getD j ByteArray.empty).data.toList

/-- What the call's own memory holds behind k rounds. -/
def LInv (w : World) (ao : Option Addr) (cap : Nat) (ss : List ByteArray) (zs : List Int) (wr : World) (k : Nat) : Prop := ∃ bs bm xs D,
  wr.heap[w.heap.size + 1 + 1]? = some (.cells #[.slice ao zs.length cap, .slice (some ⟨bs, 0, none⟩) zs.length zs.length, .map (some bm), .int .i64 (isum (zs.take k))] 61 (0, 0)) ∧
  wr.ownsRow w.heap.size 3 1 (.slice (some ⟨bs, 0, none⟩) zs.length zs.length) zs.length xs ∧
  wr.ownsMap Try.prog 9 (plainElem (H := Unit) Try.prog 3) bm k D ∧ w.heap.size ≤ bm ∧ IsMap D ∧ (∀ kl, Maps.has D kl = true ↔ ∃ j, j < k ∧ keyAt ss j = kl) ∧ Below w.heap.size w wr

/-- What NewLayout leaves. -/
def Laid (w : World) (ss : List ByteArray) (zs : List Int) (e : Ending) (w' : World) : Prop := ∃ L bm D,
  e = .returned (.pointer (some ⟨L, 0, none⟩)) ∧ w'.cell? ⟨L, 2, none⟩ = some (.map (some bm)) ∧ w'.cell? ⟨L, 3, none⟩ = some (.int .i64 (isum zs)) ∧
  w'.ownsMap Try.prog 9 (plainElem (H := Unit) Try.prog 3) bm zs.length D ∧ (∀ kl, Maps.has D kl = true ↔ ∃ j, j < zs.length ∧ keyAt ss j = kl) ∧ Below w.heap.size w w'

/-- The call's own memory in the middle of a round. -/
structure St (w W : World) (L F bs bm : Nat) (lo : Value) (n : Nat) (xs : List Value) (D : DataW Unit) (m : Nat) (wd : Int) (s : ByteArray) (z : Int) : Prop where
  hL : W.heap[L]? = some (.cells #[lo, .slice (some ⟨bs, 0, none⟩) n n, .map (some bm), .int .i64 wd] 61 (0, 0))
  hF : W.heap[F]? = some (.cells #[.string s, .string ⟨#[65]⟩, .int .i64 z, .int .i64 0] 57 (0, 0))
  hS : W.ownsRow w.heap.size 3 1 (.slice (some ⟨bs, 0, none⟩) n n) n xs
  hM : W.ownsMap Try.prog 9 (plainElem (H := Unit) Try.prog 3) bm m D
  hB : Below w.heap.size w W
  lL : w.heap.size ≤ L
  lM : w.heap.size ≤ bm

theorem row_block {W : World} {base e n : Nat} {bs : Nat} {xs : List Value} (h : W.ownsRow base e 1 (.slice (some ⟨bs, 0, none⟩) n n) n xs) : base ≤ bs ∧ ∃ cur, W.heap[bs]? = some (.cells cur e (0, 0)) := by
  rcases h.2 with ⟨h', _⟩ | ⟨g, cap, cur, h', hb, hg, _⟩
  · simp at h'
  · simp only [Value.slice.injEq, Option.some.injEq, Addr.mk.injEq, and_true, true_and] at h'
    obtain ⟨rfl, _⟩ := h'
    exact ⟨hb, cur, hg⟩
theorem map_block {W : World} {bm m : Nat} {D : DataW Unit} (h : W.ownsMap Try.prog 9 (plainElem (H := Unit) Try.prog 3) bm m D) : ∃ es c, W.heap[bm]? = some (.map es c) := by
  obtain ⟨es, c, hb, _⟩ := h; exact ⟨es, c, hb⟩

variable {w W : World} {L F bs bm n m : Nat} {lo : Value} {xs : List Value} {D : DataW Unit} {wd z : Int} {s : ByteArray}
theorem St.bsL (h : St w W L F bs bm lo n xs D m wd s z) : bs ≠ L := by
  intro e; obtain ⟨_, cur, h1⟩ := row_block h.hS; rw [e, h.hL] at h1; simp at h1
theorem St.bsF (h : St w W L F bs bm lo n xs D m wd s z) : bs ≠ F := by
  intro e; obtain ⟨_, cur, h1⟩ := row_block h.hS; rw [e, h.hF] at h1; simp at h1
theorem St.bmL (h : St w W L F bs bm lo n xs D m wd s z) : bm ≠ L := by
  intro e; obtain ⟨es, c, h1⟩ := map_block h.hM; rw [e, h.hL] at h1; simp at h1
theorem St.bmF (h : St w W L F bs bm lo n xs D m wd s z) : bm ≠ F := by
  intro e; obtain ⟨es, c, h1⟩ := map_block h.hM; rw [e, h.hF] at h1; simp at h1
theorem St.bmbs (h : St w W L F bs bm lo n xs D m wd s z) : bm ≠ bs := by
  intro e; obtain ⟨es, c, h1⟩ := map_block h.hM; obtain ⟨_, cur, h2⟩ := row_block h.hS; rw [e, h2] at h1; simp at h1
theorem St.LF (h : St w W L F bs bm lo n xs D m wd s z) : L ≠ F := by
  intro e; have h1 := h.hL; rw [e, h.hF] at h1; simp at h1
/-- The cells that a round reads. -/
theorem St.cells (h : St w W L F bs bm lo n xs D m wd s z) : W.cell? ⟨L, 1, none⟩ = some (.slice (some ⟨bs, 0, none⟩) n n) ∧ W.cell? ⟨L, 2, none⟩ = some (.map (some bm)) ∧ W.cell? ⟨L, 3, none⟩ = some (.int .i64 wd) ∧
    W.cell? ⟨F, 0, none⟩ = some (.string s) ∧ W.cell? ⟨F, 2, none⟩ = some (.int .i64 z) ∧ W.frozen? ⟨L, 3, none⟩ = false := by
  refine ⟨?_, ?_, ?_, ?_, ?_, frozen_of_row _ _ _ _ _ h.hL⟩
  · rw [cell_of_row _ _ _ _ _ _ h.hL]; rfl
  · rw [cell_of_row _ _ _ _ _ _ h.hL]; rfl
  · rw [cell_of_row _ _ _ _ _ _ h.hL]; rfl
  · rw [cell_of_row _ _ _ _ _ _ h.hF]; rfl
  · rw [cell_of_row _ _ _ _ _ _ h.hF]; rfl
/-- 'l.start[k] = ..'. -/
theorem St.store (h : St w W L F bs bm lo n xs D m wd s z) (k : Nat) (u : Value) : St w ((W.setCell ⟨bs, k, none⟩ u).drew) L F bs bm lo n (xs.set k u) D m wd s z := by
  have R := h.hS.stored k u
  refine ⟨?_, ?_, R.1.drew, (h.hM.setCell (a := ⟨bs, k, none⟩) h.bmbs u).drew, (h.hB.grown R.2 h.hB.size (fun j e => by cases e; exact (row_block h.hS).1)).drew, h.lL, h.lM⟩
  · exact (heap_setCell_other W ⟨bs, k, none⟩ L u (fun e => h.bsL e.symm)).trans h.hL
  · exact (heap_setCell_other W ⟨bs, k, none⟩ F u (fun e => h.bsF e.symm)).trans h.hF
/-- 'l.index[f.Name] = k'. -/
theorem St.put (h : St w W L F bs bm lo n xs D m wd s z) (hm : m < maxLen) (hs : s.size ≤ maxLen) (k : Nat) (hk : k ≤ 1048576) : ∃ W', (Instr.mapUpdate 59 (.map (some bm)) (.string s) (.int .i64 (k : Int))).run Try.prog W = .ok () W' ∧
    St w W' L F bs bm lo n xs (D.put (.string s.data.toList) (.lit (.int .i64 (k : Int)))) (m + 1) wd s z := by
  obtain ⟨W', hrun, h1, h2⟩ := h.hM.update law Try.underlying59 hm (keyOf_string_mk Try.underlying9 hs) (plainElem_int Try.underlying3 (a := (k : Int)) (WalkArith.wf_i64 (by omega)))
  have hsz := h2.size
  refine ⟨W', hrun, ?_, ?_, h.hS.kept h2 (.inr (fun e => h.bmbs (by simpa [Value.ownBlock] using e.symm))), h1, h.hB.grown h2 h.hB.size (fun j e => by cases e; exact h.lM), h.lL, h.lM⟩
  · exact (h2.block L (lt_of_block h.hL) (fun e => h.bmL (by simpa using e.symm))).trans h.hL
  · exact (h2.block F (lt_of_block h.hF) (fun e => h.bmF (by simpa using e.symm))).trans h.hF

theorem heapA {w : World} {o : Obj} {g : Nat} {x : Obj} (h : w.heap[g]? = some x) : (w.alloc o).heap[g]? = some x := by
  rw [Below.heap_alloc _ _ _ (lt_of_block h)]; exact h

theorem LInv.start1 (w : World) (ao : Option Addr) (cap : Nat) (ss : List ByteArray) (zs : List Int) (hl : zs.length ≤ 1048576) :
    LInv w ao cap ss zs ((((w.alloc (.cells (madeCells #[.int .i64 0] (zs.length * 1)) 3)).alloc (.map #[] 0)).alloc (.cells #[.slice ao zs.length cap, .slice (some ⟨w.heap.size, 0, none⟩) zs.length zs.length, .map (some (w.heap.size + 1)), .int .i64 0] 61)).drew) 0 := by
  refine ⟨w.heap.size, w.heap.size + 1, (madeCells #[.int .i64 0] (zs.length * 1)).toList, .map [], ?_, ?_, ?_, by omega, isMap_empty, fun kl => ?_, ?_⟩
  · have h1 := heap_alloc_new ((w.alloc (.cells (madeCells #[.int .i64 0] (zs.length * 1)) 3)).alloc (.map #[] 0)) (.cells #[.slice ao zs.length cap, .slice (some ⟨w.heap.size, 0, none⟩) zs.length zs.length, .map (some (w.heap.size + 1)), .int .i64 0] 61)
    have e1 : ((w.alloc (.cells (madeCells #[.int .i64 0] (zs.length * 1)) 3)).alloc (.map #[] 0)).heap.size = w.heap.size + 1 + 1 := by simp
    rw [e1] at h1
    exact h1
  · have h1 := (World.ownsRow_lit (base := w.heap.size) (e := 3) (size := 1) w (madeCells #[.int .i64 0] (zs.length * 1)) zs.length (Nat.le_refl _) (by unfold maxLen; omega) (size_madeCells _ _))
    exact ((h1.alloc _).alloc _).drew
  · have h1 := (World.ownsMap_made (w.alloc (.cells (madeCells #[.int .i64 0] (zs.length * 1)) 3)) Try.prog 9 (plainElem (H := Unit) Try.prog 3))
    have e1 : (w.alloc (.cells (madeCells #[.int .i64 0] (zs.length * 1)) 3)).heap.size = w.heap.size + 1 := by simp
    rw [e1] at h1
    exact (h1.alloc _).drew
  · simp [Maps.has]
  · exact ((((Below.refl _ _).alloc (Nat.le_refl _) _).alloc (by simp) _).alloc (by simp; omega) _).drew
theorem LInv.start2 (w : World) (ao : Option Addr) (cap : Nat) (ss : List ByteArray) (zs : List Int) (hl : zs.length ≤ 1048576) :
    LInv w ao cap ss zs ((((w.alloc (.map #[] 0)).alloc (.cells (madeCells #[.int .i64 0] (zs.length * 1)) 3)).alloc (.cells #[.slice ao zs.length cap, .slice (some ⟨w.heap.size + 1, 0, none⟩) zs.length zs.length, .map (some w.heap.size), .int .i64 0] 61)).drew) 0 := by
  refine ⟨w.heap.size + 1, w.heap.size, (madeCells #[.int .i64 0] (zs.length * 1)).toList, .map [], ?_, ?_, ?_, by omega, isMap_empty, fun kl => ?_, ?_⟩
  · have h1 := heap_alloc_new ((w.alloc (.map #[] 0)).alloc (.cells (madeCells #[.int .i64 0] (zs.length * 1)) 3)) (.cells #[.slice ao zs.length cap, .slice (some ⟨w.heap.size + 1, 0, none⟩) zs.length zs.length, .map (some w.heap.size), .int .i64 0] 61)
    have e1 : ((w.alloc (.map #[] 0)).alloc (.cells (madeCells #[.int .i64 0] (zs.length * 1)) 3)).heap.size = w.heap.size + 1 + 1 := by simp
    rw [e1] at h1
    exact h1
  · have h1 := (World.ownsRow_lit (base := w.heap.size) (e := 3) (size := 1) (w.alloc (.map #[] 0)) (madeCells #[.int .i64 0] (zs.length * 1)) zs.length (by simp) (by unfold maxLen; omega) (size_madeCells _ _))
    have e1 : (w.alloc (.map #[] 0)).heap.size = w.heap.size + 1 := by simp
    rw [e1] at h1
    exact (h1.alloc _).drew
  · have h1 := (World.ownsMap_made w Try.prog 9 (plainElem (H := Unit) Try.prog 3))
    exact ((h1.alloc _).alloc _).drew
  · simp [Maps.has]
  · exact ((((Below.refl _ _).alloc (Nat.le_refl _) _).alloc (by simp) _).alloc (by simp; omega) _).drew

/-- A round begins: the field is laid in a block of its own. -/
theorem LInv.begins {w wr : World} {ao : Option Addr} {cap : Nat} {ss : List ByteArray} {zs : List Int} {k : Nat} (h : LInv w ao cap ss zs wr k) (s : ByteArray) (z : Int) : ∃ bs bm xs D, IsMap D ∧ (∀ kl, Maps.has D kl = true ↔ ∃ j, j < k ∧ keyAt ss j = kl) ∧
    St w (wr.alloc (.cells #[.string s, .string ⟨#[65]⟩, .int .i64 z, .int .i64 0] 57)) (w.heap.size + 1 + 1) wr.heap.size bs bm (.slice ao zs.length cap) zs.length xs D k (isum (zs.take k)) s z := by
  obtain ⟨bs, bm, xs, D, hL, hS, hM, hbm, hD, hhas, hB⟩ := h
  exact ⟨bs, bm, xs, D, hD, hhas, ⟨heapA hL, heap_alloc_new _ _, hS.alloc _, hM.alloc _, hB.alloc hB.size _, by omega, hbm⟩⟩
/-- A round ends: 'l.width += f.Width'. -/
theorem St.ends {ao : Option Addr} {cap : Nat} {ss : List ByteArray} {zs : List Int} {k : Nat} (h : St w W (w.heap.size + 1 + 1) F bs bm (.slice ao zs.length cap) zs.length xs D (k + 1) wd s z) (hD : IsMap D) (hhas : ∀ kl, Maps.has D kl = true ↔ ∃ j, j < k + 1 ∧ keyAt ss j = kl)
    {wd' : Int} (hw : wd' = isum (zs.take (k + 1))) : LInv w ao cap ss zs ((W.setCell ⟨w.heap.size + 1 + 1, 3, none⟩ (.int .i64 wd')).drew) (k + 1) := by
  refine ⟨bs, bm, xs, D, ?_, (ownsRow_setCell_other h.hS (a := ⟨w.heap.size + 1 + 1, 3, none⟩) (fun e => h.bsL (by simpa [Value.ownBlock] using e)) _).drew, (h.hM.setCell (a := ⟨w.heap.size + 1 + 1, 3, none⟩) h.bmL _).drew, h.lM, hD, hhas, (h.hB.setCell (p := ⟨w.heap.size + 1 + 1, 3, none⟩) h.lL _).drew⟩
  have h1 := heap_setCell_same W (w.heap.size + 1 + 1) 3 _ 61 (.int .i64 wd') h.hL
  rw [← hw]
  exact h1
theorem has_step {ss : List ByteArray} {k : Nat} {D : DataW Unit} (hD : IsMap D) (hhas : ∀ kl, Maps.has D kl = true ↔ ∃ j, j < k ∧ keyAt ss j = kl) {s : ByteArray} (hs : s = ss.getD k ByteArray.empty) (d : DataW Unit) :
    ∀ kl, Maps.has (D.put (.string s.data.toList) d) kl = true ↔ ∃ j, j < k + 1 ∧ keyAt ss j = kl := by
  intro kl
  have hks : keyAt ss k = .string s.data.toList := by rw [hs]; rfl
  by_cases e : kl = .string s.data.toList
  · subst e
    constructor
    · intro _; exact ⟨k, by omega, hks⟩
    · intro _; exact has_put_same (k := .string s.data.toList) hD (by simp [WideAt.IsKeyLit]) d
  · rw [has_put_other e, hhas]
    constructor
    · rintro ⟨j, hj, h⟩; exact ⟨j, by omega, h⟩
    · rintro ⟨j, hj, h⟩
      refine ⟨j, ?_, h⟩
      by_cases ej : j = k
      · subst ej; exact absurd (h.symm.trans hks) e
      · omega
theorem LInv.done {w wr : World} {ao : Option Addr} {cap : Nat} {ss : List ByteArray} {zs : List Int} (h : LInv w ao cap ss zs wr zs.length) : Laid w ss zs (.returned (.pointer (some ⟨w.heap.size + 1 + 1, 0, none⟩))) wr := by
  obtain ⟨bs, bm, xs, D, hL, hS, hM, hbm, hD, hhas, hB⟩ := h
  refine ⟨w.heap.size + 1 + 1, bm, D, rfl, ?_, ?_, hM, hhas, hB⟩
  · rw [cell_of_row _ _ _ _ _ _ hL]; rfl
  · rw [cell_of_row _ _ _ _ _ _ hL, List.take_of_length_le (Nat.le_refl _)]; rfl
end Go.Proofs.Qxb6003707a

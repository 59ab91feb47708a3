/-
  Seat b6003965aF: replace.
-/
import Derived.Test.Qxb6003965aFmtReplC
namespace Go.Proofs.Qxb6003965aFmt
open Go.RowKit Go.WideMaps Go.Maps

/-- What replace leaves. -/
def Replaced (w : World) (Nb Rb Sb Pb Mb : Nat) (A : Int) (n : Nat) (nx : Int) (ps : List Int) (r : Int) (c : Nat) (so : Option Addr) (cp : Nat) (scr : List Int) (e : Ending) (w' : World) : Prop :=
  ∃ vo vc jo jc js xs D m i, e = .returned (.agg #[.int .i64 r, .slice vo c vc, .slice jo c jc]) ∧ LAt w' vo (srt (ps.take c)) ∧ JAt w' jo js ∧ js.length = c ∧ (∀ j, j < c → (js.getD j (0, 0)).1 = nx + (j : Int)) ∧
    (∀ a, vo = some a → w.heap.size ≤ a.block) ∧ (∀ a, jo = some a → w.heap.size ≤ a.block) ∧ Net w' Nb Rb Pb Mb A n (nx + (c : Int)) xs D m ∧ xs.Perm (consec nx c ++ ps.drop c) ∧ Src w' Sb so cp scr i ∧ RandAt w' Rb Sb ∧
    Frm (fun k => k = Nb ∨ k = Pb ∨ k = Mb ∨ k = Sb) w w'

theorem store3 {W : World} {B : Nat} {t : TypeId} {a b c : Value} (x y z : Value) (h : W.heap[B]? = some (.cells #[a, b, c] t (0, 0))) : (((W.setCell ⟨B, 0, none⟩ x).setCell ⟨B, 1, none⟩ y).setCell ⟨B, 2, none⟩ z).heap[B]? = some (.cells #[x, y, z] t (0, 0)) := by
  have h1 := heap_setCell_same W B 0 _ t x h
  have h2 := heap_setCell_same _ B 1 _ t y h1
  have h3 := heap_setCell_same _ B 2 _ t z h2
  rw [h3]; rfl
theorem Frm.store3 {S : Nat → Prop} {w W : World} {B : Nat} (x y z : Value) (h : Frm S w W) (hB : B < w.heap.size → S B) : Frm S w (((W.setCell ⟨B, 0, none⟩ x).setCell ⟨B, 1, none⟩ y).setCell ⟨B, 2, none⟩ z) :=
  ((h.setCell (p := ⟨B, 0, none⟩) hB x).setCell (p := ⟨B, 1, none⟩) hB y).setCell (p := ⟨B, 2, none⟩) hB z

set_option maxHeartbeats 400000 in
theorem replace_zero (Nb Rb Sb Pb Mb : Nat) (A : Int) (n : Nat) (nx : Int) (ps : List Int) (D : DataW Unit) (m : Nat) (r : Int) (so : Option Addr) (cp : Nat) (scr : List Int) (i : Nat) (w : World) (h : Net w Nb Rb Pb Mb A n nx ps D m) (hs : Src w Sb so cp scr i) (hR : RandAt w Rb Sb) :
    Calls Tryf.prog 28 #[.pointer (some ⟨Nb, 0, none⟩), .int .i64 r, .int .i64 (0 : Int)] w (Replaced w Nb Rb Sb Pb Mb A n nx ps r 0 so cp scr) := by
  have H41 := fun w => hidP (silent_any r w)
  have H := hidP h
  have HS := hidP hs
  have HR := hidP hR
  clear h hs hR
  go_enter Tryf.func28, Tryf.ntmps28
  go_wp2_with fail
  refine (H41 _).out.mono ?_
  rintro e w1 ⟨rfl, h1, h2, h3⟩
  have e0 : (w.alloc (.cells #[.int .i64 0, .slice none 0 0, .slice none 0 0] 43)).heap.size = w.heap.size + 1 := by simp
  have hb := Below.obj h1 (by simp) (heap_alloc_new w (.cells #[.int .i64 0, .slice none 0 0, .slice none 0 0] 43))
  have r0 := fun (o : Obj) => (box3 (heapA (o := o) hb)).1
  have r1 := fun (o : Obj) => (box3 (heapA (o := o) hb)).2.1
  have r2 := fun (o : Obj) => (box3 (heapA (o := o) hb)).2.2
  have f0 := fun (o : Obj) j => frozen_of_row _ _ j _ _ (heapA (o := o) hb)
  have HB := hidP hb
  have B : Hid (Below w.heap.size w w1) := ((Below.refl _ _).alloc (Nat.le_refl _) _).trans (h1.mono (by simp))
  have hsz := h1.size
  rw [e0] at hsz ⊢
  clear h1 h2 h3 hb e0
  go_wp2
  clear r0 r1 r2 f0 H41
  have hb := store3 (.int .i64 r) (.slice (some ⟨w.heap.size + 1 + 1, 0, none⟩) 0 0) (.slice (some ⟨w.heap.size + 1 + 1 + 1, 0, none⟩) 0 0) (heapA (o := .cells #[.int .i64 r, .slice (some ⟨w.heap.size + 1 + 1, 0, none⟩) 0 0, .slice (some ⟨w.heap.size + 1 + 1 + 1, 0, none⟩) 0 0] 43) HB.out)
  have F := Frm.store3 (S := fun _ => False) (.int .i64 r) (.slice (some ⟨w.heap.size + 1 + 1, 0, none⟩) 0 0) (.slice (some ⟨w.heap.size + 1 + 1 + 1, 0, none⟩) 0 0) ((Frm.new (S := fun _ => False) B.out).alloc (.cells #[.int .i64 r, .slice (some ⟨w.heap.size + 1 + 1, 0, none⟩) 0 0, .slice (some ⟨w.heap.size + 1 + 1 + 1, 0, none⟩) 0 0] 43)) (B := w.heap.size) (fun h => by omega)
  have fin : Hid (Replaced w Nb Rb Sb Pb Mb A n nx ps r 0 so cp scr (.returned (.agg #[.int .i64 r, .slice (some ⟨w.heap.size + 1 + 1, 0, none⟩) 0 0, .slice (some ⟨w.heap.size + 1 + 1 + 1, 0, none⟩) 0 0])) _) :=
    ⟨_, _, _, _, [], ps, D, m, i, rfl, by intro h; simp [srt_len] at h, by intro h; simp at h, rfl, fun j hj => by omega, fun a e => by cases e; simp; omega, fun a e => by cases e; simp; omega, by simpa using H.out.frm F id id id, by simp [consec], HS.out.frm F id (fun _ _ _ _ => id), F.obj HR.out id, F.mono (fun _ _ => False.elim)⟩
  obtain ⟨c0, c1, c2⟩ := box3 hb
  revert c0 c1 c2 fin
  clear F hb HB H HS HR B
  generalize (((w1.alloc (.cells #[.int .i64 r, .slice (some ⟨w.heap.size + 1 + 1, 0, none⟩) 0 0, .slice (some ⟨w.heap.size + 1 + 1 + 1, 0, none⟩) 0 0] 43)).setCell ⟨w.heap.size, 0, none⟩ (.int .i64 r)).setCell ⟨w.heap.size, 1, none⟩ (.slice (some ⟨w.heap.size + 1 + 1, 0, none⟩) 0 0)).setCell ⟨w.heap.size, 2, none⟩ (.slice (some ⟨w.heap.size + 1 + 1 + 1, 0, none⟩) 0 0) = W
  intro fin c0 c1 c2
  refine bodyPost_ret (v := .agg #[.int .i64 r, .slice (some ⟨w.heap.size + 1 + 1, 0, none⟩) 0 0, .slice (some ⟨w.heap.size + 1 + 1 + 1, 0, none⟩) 0 0]) ?_ rfl fin.out
  clear fin
  simp [results, Tryf.results28, go_sem, c0, c1, c2]
end Go.Proofs.Qxb6003965aFmt

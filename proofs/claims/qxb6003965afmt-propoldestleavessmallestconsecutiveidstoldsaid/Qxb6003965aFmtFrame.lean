/-
  Seat b6003965aF: 'Frm S W W'': whatever lay outside the blocks S lies as it lay.
-/
import Derived.Test.Qxb6003965aFmtRows
import Derived.WalkKit
import Derived.WalkSpells
import Derived.WalkLawsBesides
namespace Go.Proofs.Qxb6003965aFmt
open Go.RowKit

theorem hidP {p : Prop} (h : p) : Hid p := h
theorem ret_bool {a b : Bool} (h : a = b) : Ending.returned (.bool a) = .returned (.bool b) := by rw [h]
theorem ret_int {k : IntKind} {a b : Int} (h : a = b) : Ending.returned (.int k a) = .returned (.int k b) := by rw [h]

/-- Whatever lay outside the blocks S lies as it lay; the streams are as they were; no block has gone. -/
structure Frm (S : Nat → Prop) (w w' : World) : Prop where
  os : w'.os = w.os
  tape : w'.tape = w.tape
  output : w'.output = w.output
  size : w.heap.size ≤ w'.heap.size
  block : ∀ k, k < w.heap.size → ¬ S k → w'.heap[k]? = w.heap[k]?

variable {S T : Nat → Prop} {a b c w w' : World}
theorem Frm.refl (S : Nat → Prop) (w : World) : Frm S w w := ⟨rfl, rfl, rfl, Nat.le_refl _, fun _ _ _ => rfl⟩
theorem Frm.trans (h : Frm S a b) (k : Frm S b c) : Frm S a c :=
  ⟨k.os.trans h.os, k.tape.trans h.tape, k.output.trans h.output, Nat.le_trans h.size k.size, fun i hi hs => (k.block i (Nat.lt_of_lt_of_le hi h.size) hs).trans (h.block i hi hs)⟩
/-- What the second step wrote was its own, or new. -/
theorem Frm.andThen (h : Frm S a b) (k : Frm T b c) (ht : ∀ i, i < a.heap.size → T i → S i) : Frm S a c :=
  ⟨k.os.trans h.os, k.tape.trans h.tape, k.output.trans h.output, Nat.le_trans h.size k.size, fun i hi hs => (k.block i (Nat.lt_of_lt_of_le hi h.size) (fun t => hs (ht i hi t))).trans (h.block i hi hs)⟩
theorem Frm.mono (h : Frm S a b) (hs : ∀ i, i < a.heap.size → S i → T i) : Frm T a b := (Frm.refl T a).andThen h hs
theorem Frm.drew (h : Frm S a w) : Frm S a w.drew := ⟨h.os, h.tape, h.output, h.size, h.block⟩
theorem Frm.alloc (h : Frm S a w) (o : Obj) : Frm S a (w.alloc o) :=
  h.trans ⟨rfl, rfl, rfl, by simp, fun k hk _ => Below.heap_alloc _ _ _ hk⟩
theorem Frm.setCell (h : Frm S a w) {p : Addr} (hp : p.block < a.heap.size → S p.block) (u : Value) : Frm S a (w.setCell p u) :=
  h.andThen (T := fun i => i = p.block) ⟨rfl, rfl, rfl, by simp [World.setCell], fun k _ hk => Below.heap_setCell _ _ _ _ hk⟩ (fun i hi e => by subst e; exact hp hi)
theorem Frm.of_grown {row : Option Nat} (h : w.grownBy w' row) (hr : ∀ k, row = some k → k < w.heap.size → S k) : Frm S w w' :=
  ⟨h.os, h.tape, h.output, h.size, fun k hk hs => h.block k hk (fun e => hs (hr k e.symm hk))⟩
theorem Frm.of_below {B : Nat} (h : Below B w w') (hs : ∀ k, k < w.heap.size → B ≤ k → S k) : Frm S w w' :=
  ⟨h.os, h.tape, h.output, h.size, fun k hk hn => h.block k (by apply Classical.byContradiction; intro g; exact hn (hs k hk (by omega)))⟩
theorem Frm.new (h : Below w.heap.size w w') : Frm S w w' := Frm.of_below h (fun k hk hb => by omega)
theorem Frm.below {B : Nat} (h : Frm S w w') (hB : B ≤ w.heap.size) (hs : ∀ k, k < B → ¬ S k) : Below B w w' :=
  ⟨h.os, h.tape, h.output, h.size, fun k hk => h.block k (by omega) (hs k hk)⟩
theorem Frm.cell (h : Frm S w w') {k o : Nat} {v : Value} (hc : w.cell? ⟨k, o, none⟩ = some v) (hs : ¬ S k) : w'.cell? ⟨k, o, none⟩ = some v := by
  have hk : k < w.heap.size := block_lt_of_cell hc
  have hb := h.block k hk hs
  simp only [World.cell?] at hc ⊢
  rw [hb]; exact hc
theorem Frm.frozen (h : Frm S w w') {k o : Nat} (hk : k < w.heap.size) (hs : ¬ S k) : w'.frozen? ⟨k, o, none⟩ = w.frozen? ⟨k, o, none⟩ := by
  have hb := h.block k hk hs
  simp only [World.frozen?]
  rw [hb]
theorem Frm.obj (h : Frm S w w') {k : Nat} {o : Obj} (hc : w.heap[k]? = some o) (hs : ¬ S k) : w'.heap[k]? = some o :=
  (h.block k (lt_of_block hc) hs).trans hc
end Go.Proofs.Qxb6003965aFmt

/-
  Seat b6003965aF: the law's state between two rounds.
-/
import Derived.Test.Qxb6003965aFmtIter
namespace Go.Proofs.Qxb6003965aFmt
open Go.RowKit Go.WideMaps Go.Maps Go.Shelf

/-- The law's own memory behind k rounds. -/
structure LawAt (w : World) (cb pb kb n : Nat) (A : Int) (R b C Sb Fb Nb Pb Mb k : Nat) (W : World) (g cap : Nat) : Prop where
  sx : W.heap[w.heap.size]? = some (.cells #[.int .i64 (n : Int), .int .i64 A, .int .i64 (R : Int), .int .i64 (b : Int), .int .i64 (C : Int)] 30 (0, 0))
  res : W.heap[w.heap.size + 1]? = some (.cells #[.bool false] 4 (0, 0))
  cbox : W.heap[cb]? = some (.cells #[.int .i64 (C : Int)] 3 (0, 0))
  pbox : W.heap[pb]? = some (.cells #[.slice (some ⟨g, 0, none⟩) n cap] 39 (0, 0))
  kbox : W.heap[kb]? = some (.cells #[.int .i64 (k : Int)] 3 (0, 0))
  row : IRow W g cap (consec ((loK b C k : Nat) : Int) n)
  below : Below w.heap.size w W
  own : w.heap.size ≤ cb ∧ w.heap.size ≤ pb ∧ w.heap.size ≤ kb ∧ w.heap.size ≤ g
  kc : kb ≠ cb
  apart : ∀ z, (z = w.heap.size ∨ z = w.heap.size + 1 ∨ z = cb ∨ z = pb ∨ z = kb ∨ z = g) → ¬ (z = Fb ∨ z = Nb ∨ z = Pb ∨ z = Mb ∨ z = Sb)
  made : w.heap.size ≤ Fb ∧ w.heap.size ≤ Nb ∧ w.heap.size ≤ Pb ∧ w.heap.size ≤ Mb ∧ w.heap.size ≤ Sb

variable {w W W' : World} {cb pb kb n : Nat} {A : Int} {R b C Sb Fb Nb Pb Mb k g cap : Nat} {T : Nat → Prop}
theorem LawAt.frm (h : LawAt w cb pb kb n A R b C Sb Fb Nb Pb Mb k W g cap) (hf : Frm T W W') (hT : ∀ z, (z = w.heap.size ∨ z = w.heap.size + 1 ∨ z = cb ∨ z = pb ∨ z = kb ∨ z = g) → ¬ T z) (hB : ∀ z, z < w.heap.size → ¬ T z) : LawAt w cb pb kb n A R b C Sb Fb Nb Pb Mb k W' g cap :=
  ⟨hf.obj h.sx (hT _ (.inl rfl)), hf.obj h.res (hT _ (.inr (.inl rfl))), hf.obj h.cbox (hT _ (.inr (.inr (.inl rfl)))), hf.obj h.pbox (hT _ (.inr (.inr (.inr (.inl rfl))))), hf.obj h.kbox (hT _ (.inr (.inr (.inr (.inr (.inl rfl)))))), h.row.frm hf (hT _ (.inr (.inr (.inr (.inr (.inr rfl)))))), h.below.trans (hf.below h.below.size hB), h.own, h.kc, h.apart, h.made⟩
theorem LawAt.kept (h : LawAt w cb pb kb n A R b C Sb Fb Nb Pb Mb k W g cap) (hf : Frm (fun i => i = Fb ∨ i = Nb ∨ i = Pb ∨ i = Mb ∨ i = Sb) W W') : LawAt w cb pb kb n A R b C Sb Fb Nb Pb Mb k W' g cap :=
  h.frm hf h.apart (fun z hz e => by have := h.made; omega)

theorem Sys.frm {Sx Fb Wb Nb Rb Sb Pb Mb : Nat} {n : Nat} {A rr b : Int} {C : Nat} {lo : Int} {so : Option Addr} {cp : Nat} {scr : List Int} (h : Sys W Sx Fb Wb Nb Rb Sb Pb Mb n A rr b C lo so cp scr) (hf : Frm T W W')
    (h1 : ∀ z cur t, W.heap[z]? = some (.cells cur t (0, 0)) → (t = 30 ∨ t = 2 ∨ t = 58 ∨ t = 80 ∨ t = 69 ∨ t = 88) → ¬ T z) (h2 : ∀ z es cl, W.heap[z]? = some (.map es cl) → ¬ T z) (h3 : ∀ b off x, W.cell? ⟨b, off, none⟩ = some (.int .u64 x) → ¬ T b) : Sys W' Sx Fb Wb Nb Rb Sb Pb Mb n A rr b C lo so cp scr := by
  obtain ⟨ps, D, m, i, hnet, hperm, hsrc⟩ := h.net
  obtain ⟨cur, hpb, _⟩ := hnet.row
  obtain ⟨es, cl, hmb⟩ := map_block hnet.map
  refine ⟨hf.obj h.sx (h1 _ _ _ h.sx (.inl rfl)), hf.obj h.fb (h1 _ _ _ h.fb (by simp)), hf.obj h.wb (h1 _ _ _ h.wb (by simp)), ⟨ps, D, m, i, hnet.frm hf (h1 _ _ _ hnet.box (by simp)) (h1 _ _ _ hpb (by simp)) (h2 _ _ _ hmb), hperm, hsrc.frm hf (h1 _ _ _ hsrc.box (by simp)) (fun b off e h0 => ?_)⟩, hf.obj h.rand (h1 _ _ _ h.rand (by simp)), h.fp⟩
  obtain ⟨b', off', e', hc⟩ := hsrc.row h0
  rw [e] at e'
  simp only [Option.some.injEq, Addr.mk.injEq, and_true] at e'
  obtain ⟨rfl, rfl⟩ := e'
  exact h3 _ _ _ (hc 0 h0).1
end Go.Proofs.Qxb6003965aFmt

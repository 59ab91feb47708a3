/-
  Seat b6003965aF: replace: the state of its loops.
-/
import Derived.Test.Qxb6003965aFmtReplP
import Derived.Test.Qxb6003965aFmtSilent
import Derived.Test.Qxb6003965aFmtCollect
import Derived.Deep.RegionLaw
import Derived.Deep.RegionLawGrows
namespace Go.Proofs.Qxb6003965aFmt
open Go.RowKit Go.WideMaps Go.Maps

/-- append, as one step of a region that draws, where the row is the call's own. -/
theorem step_append_own {P : Program} {ops : Array Oper} {o : Oper} {a : Act} {w : World} {K : Act → World → Prop} {Q : Exit → Act → World → Prop} {E : Prop}
    (hg : o.guard = none) (s x : Operand) (t : TypeId) (hop : o.op = Op.call { callee := Callee.builtin Builtin.append, args := #[s, x], argTypes := #[t, t] })
    (base : Nat) (e : TypeId) (i : TypeInfo) (z : Value) (size bytes : Nat) (h1 : P.underlying t = some (.slice e)) (h2 : P.info? e = some i) (h3 : i.zero = some z) (h4 : i.size = size) (h5 : i.bytes = bytes) (h6 : z.cells.size = size) (h7 : 0 < size)
    (v : Value) (n : Nat) (xs : List Value) (hs : a.eval s = v) (hown : w.ownsRow base e size v n xs)
    (ad : Addr) (m c : Nat) (news : List Value) (hx : a.eval x = .slice (some ad) m c) (hn : news.length = m * size) (hc : ∀ j u, news[j]? = some u → w.cell? (ad.add j) = some u) (h1c : ∀ u ∈ news, u.oneCell' = true)
    (b1 : n + m ≤ maxLen) (b2 : (n + m) * bytes ≤ 140737488355328) (hb : base ≤ w.heap.size)
    (hK : ∀ v' w', w'.ownsRow base e size v' (n + m) (xs ++ news) → w.grownBy w' v.ownBlock → K (a.put o.dst v') w') :
    if Region.wanted o (yielded ops a.tmps) = true then Oper.wp P o a w K Q else E := by
  have hw : Region.wanted o (yielded ops a.tmps) = true := by simp [Region.wanted, hg]
  rw [if_pos hw]
  obtain ⟨v', w', hrun, r1, r2, _⟩ := run_append_own (P := P) w base t o.type e i z size bytes h1 h2 h3 h4 h5 h6 h7 v n xs hown ad m c news hn hc h1c b1 b2 hb
  unfold Oper.wp
  simp [execOp, hop, resolve, invoke, builtin, hs, hx, hrun, Result.andThen]
  exact hK v' w' r1 r2

theorem ownsRow_frm {w w' : World} {B n size : Nat} {e : TypeId} {v : Value} {xs : List Value} {T : Nat → Prop} (h : w.ownsRow B e size v n xs) (hf : Frm T w w') (hs : ∀ g, v.ownBlock = some g → ¬ T g) : w'.ownsRow B e size v n xs := by
  refine ⟨h.1, ?_⟩
  rcases h.2 with h | ⟨g, cap, cur, rfl, h1, h2, h3⟩
  · exact .inl h
  · exact .inr ⟨g, cap, cur, rfl, h1, hf.obj h2 (hs g rfl), h3⟩
theorem ownsRow_own {w : World} {B n size : Nat} {e : TypeId} {v : Value} {xs : List Value} (h : w.ownsRow B e size v n xs) {g : Nat} (hg : v.ownBlock = some g) : B ≤ g ∧ ∃ cur, w.heap[g]? = some (.cells cur e (0, 0)) := by
  rcases h.2 with ⟨h, _⟩ | ⟨g', cap, cur, rfl, h1, h2, h3⟩
  · subst h; cases hg
  · cases hg; exact ⟨h1, cur, h2⟩
theorem Src.frm {w w' : World} {Sb : Nat} {so : Option Addr} {cp : Nat} {scr : List Int} {i : Nat} {T : Nat → Prop} (h : Src w Sb so cp scr i) (hf : Frm T w w') (h1 : ¬ T Sb) (h2 : ∀ b off, so = some ⟨b, off, none⟩ → 0 < scr.length → ¬ T b) : Src w' Sb so cp scr i := by
  refine ⟨hf.obj h.box h1, fun h0 => ?_, h.le, h.len⟩
  obtain ⟨b, off, e, hc⟩ := h.row h0
  exact ⟨b, off, e, fun j hj => ⟨hf.cell (hc j hj).1 (h2 b off e h0), (hc j hj).2⟩⟩

/-- Where the script lies: in none of the network's own blocks. -/
def ScrApart (w0 : World) (Nb Pb Mb : Nat) (so : Option Addr) (scr : List Int) : Prop :=
  ∀ b off, so = some ⟨b, off, none⟩ → 0 < scr.length → b ≠ Nb ∧ b ≠ Pb ∧ b ≠ Mb ∧ b < w0.heap.size
theorem Net.apart {w : World} {Nb Rb Pb Mb : Nat} {A : Int} {n : Nat} {next : Int} {ps : List Int} {D : DataW Unit} {m : Nat} (h : Net w Nb Rb Pb Mb A n next ps D m) {Sb : Nat} {so : Option Addr} {cp : Nat} {scr : List Int} {i : Nat} (hs : Src w Sb so cp scr i) : ScrApart w Nb Pb Mb so scr := by
  intro b off e h0
  obtain ⟨b', off', e', hc⟩ := hs.row h0
  rw [e] at e'
  simp only [Option.some.injEq, Addr.mk.injEq, and_true] at e'
  obtain ⟨rfl, rfl⟩ := e'
  have c0 := (hc 0 h0).1
  refine ⟨?_, ?_, ?_, block_lt_of_cell c0⟩
  · rintro rfl
    rw [cell_of_row _ _ _ _ _ _ h.box] at c0
    rcases hk : off + 0 with _ | _ | _ | _ | _ | k <;> rw [hk] at c0 <;> simp at c0
  · rintro rfl
    obtain ⟨cur, h1, h2, _, _, h5⟩ := h.row
    rw [cell_of_row _ _ _ _ _ _ h1] at c0
    rw [h.len, List.take_of_length_le (by simp; omega)] at h5
    have : (ps.map (Value.int .i64))[off + 0]? = some (.int .u64 (scr.getD 0 0)) := by rw [← h5, Array.getElem?_toList]; exact c0
    rw [List.getElem?_map] at this
    cases hq : ps[off + 0]? <;> rw [hq] at this <;> simp at this
  · rintro rfl
    obtain ⟨es, cl, h1⟩ := map_block h.map
    simp [World.cell?, h1] at c0

/-- The state. -/
structure Rep (w0 : World) (Nb Rb Sb Pb Mb Rd Lb Lc : Nat) (A : Int) (n : Nat) (r : Int) (zs : List Int) (so : Option Addr) (cp : Nat) (scr : List Int) (wr : World) (nx : Int) (xs : List Int) (D : DataW Unit) (m : Nat) (vj : Value) (js : List (Int × Int)) (i : Nat) : Prop where
  net : Net wr Nb Rb Pb Mb A n nx xs D m
  box : wr.heap[Rd]? = some (.cells #[.int .i64 r, .slice (some ⟨Lb, 0, none⟩) zs.length Lc, vj] 43 (0, 0))
  row : wr.ownsRow w0.heap.size 71 2 vj js.length (jcells js)
  leave : IRow wr Lb Lc zs
  src : Src wr Sb so cp scr i
  rand : RandAt wr Rb Sb
  apart : ScrApart w0 Nb Pb Mb so scr
  frm : Frm (fun k => k = Nb ∨ k = Pb ∨ k = Mb ∨ k = Sb) w0 wr
  lts : Nb < w0.heap.size ∧ Pb < w0.heap.size ∧ Mb < w0.heap.size ∧ Sb < w0.heap.size ∧ Rb < w0.heap.size
  rd : w0.heap.size < Rd
  res : wr.heap[w0.heap.size]? = some (.cells #[.int .i64 0, .slice none 0 0, .slice none 0 0] 43 (0, 0))
  lb : w0.heap.size ≤ Lb

variable {w0 wr w' : World} {Nb Rb Sb Pb Mb Rd Lb Lc : Nat} {A : Int} {n : Nat} {r : Int} {zs : List Int} {so : Option Addr} {cp : Nat} {scr : List Int} {nx : Int} {xs : List Int} {D : DataW Unit} {m : Nat} {vj : Value} {js : List (Int × Int)} {i : Nat}
variable {nx' : Int} {xs' : List Int} {D' : DataW Unit} {m' : Nat} {vj' : Value} {js' : List (Int × Int)} {T : Nat → Prop}

theorem ne_obj {w : World} {a b : Nat} {x y : Obj} (h1 : w.heap[a]? = some x) (h2 : w.heap[b]? = some y) (h : x ≠ y) : a ≠ b := by
  rintro rfl; rw [h1] at h2; exact h (Option.some.inj h2)
theorem Rep.apartNet (h : Rep w0 Nb Rb Sb Pb Mb Rd Lb Lc A n r zs so cp scr wr nx xs D m vj js i) : Sb ≠ Nb ∧ Sb ≠ Pb ∧ Sb ≠ Mb ∧ Rb ≠ Nb ∧ Rb ≠ Pb ∧ Rb ≠ Mb := by
  obtain ⟨cur, hp, _⟩ := h.net.row
  obtain ⟨es, cl, hm⟩ := map_block h.net.map
  exact ⟨ne_obj h.src.box h.net.box (by simp), ne_obj h.src.box hp (by simp), ne_obj h.src.box hm (by simp), ne_obj h.rand h.net.box (by simp), ne_obj h.rand hp (by simp), ne_obj h.rand hm (by simp)⟩

/-- A step that leaves the source, the Rand and the leaving row alone. -/
theorem Rep.turn (h : Rep w0 Nb Rb Sb Pb Mb Rd Lb Lc A n r zs so cp scr wr nx xs D m vj js i) (hf : Frm T wr w') (hT : ∀ k, k < w0.heap.size → T k → k = Nb ∨ k = Pb ∨ k = Mb) (hL : ¬ T Lb) (hQ : ¬ T w0.heap.size)
    (net : Net w' Nb Rb Pb Mb A n nx' xs' D' m') (box : w'.heap[Rd]? = some (.cells #[.int .i64 r, .slice (some ⟨Lb, 0, none⟩) zs.length Lc, vj'] 43 (0, 0))) (row : w'.ownsRow w0.heap.size 71 2 vj' js'.length (jcells js')) :
    Rep w0 Nb Rb Sb Pb Mb Rd Lb Lc A n r zs so cp scr w' nx' xs' D' m' vj' js' i := by
  obtain ⟨a1, a2, a3, a4, a5, a6⟩ := h.apartNet
  obtain ⟨l1, l2, l3, l4, l5⟩ := h.lts
  refine ⟨net, box, row, h.leave.frm hf hL, h.src.frm hf (fun t => ?_) (fun b off e h0 t => ?_), hf.obj h.rand (fun t => ?_), h.apart, h.frm.andThen hf (fun k hk t => ?_), h.lts, h.rd, hf.obj h.res hQ, h.lb⟩
  · rcases hT Sb l4 t with e | e | e
    · exact a1 e
    · exact a2 e
    · exact a3 e
  · obtain ⟨b1, b2, b3, b4⟩ := h.apart b off e h0
    rcases hT b b4 t with e | e | e
    · exact b1 e
    · exact b2 e
    · exact b3 e
  · rcases hT Rb l5 t with e | e | e
    · exact a4 e
    · exact a5 e
    · exact a6 e
  · rcases hT k hk t with e | e | e
    · exact .inl e
    · exact .inr (.inl e)
    · exact .inr (.inr (.inl e))
theorem Rep.lows (h : Rep w0 Nb Rb Sb Pb Mb Rd Lb Lc A n r zs so cp scr wr nx xs D m vj js i) : (Nb ≠ Rd ∧ Pb ≠ Rd ∧ Mb ≠ Rd) ∧ (Nb ≠ Lb ∧ Pb ≠ Lb ∧ Mb ≠ Lb) ∧ Lb ≠ Rd ∧ (∀ g, vj.ownBlock = some g → g ≠ Nb ∧ g ≠ Pb ∧ g ≠ Mb ∧ g ≠ Rd ∧ g ≠ Lb ∧ w0.heap.size ≤ g) := by
  obtain ⟨l1, l2, l3, l4, l5⟩ := h.lts
  have h1 := h.rd
  have h2 := h.lb
  obtain ⟨cur, hl, _⟩ := h.leave
  refine ⟨⟨by omega, by omega, by omega⟩, ⟨by omega, by omega, by omega⟩, ne_obj hl h.box (by simp), fun g hg => ?_⟩
  obtain ⟨o1, cur', o2⟩ := ownsRow_own h.row hg
  exact ⟨by omega, by omega, by omega, ne_obj o2 h.box (by simp), ne_obj o2 hl (by simp), o1⟩
theorem Rep.drawn (h : Rep w0 Nb Rb Sb Pb Mb Rd Lb Lc A n r zs so cp scr wr nx xs D m vj js i) (hf : Frm (fun k => k = Sb) wr w') {i' : Nat} (hs : Src w' Sb so cp scr i') : Rep w0 Nb Rb Sb Pb Mb Rd Lb Lc A n r zs so cp scr w' nx xs D m vj js i' := by
  obtain ⟨a1, a2, a3, a4, a5, a6⟩ := h.apartNet
  obtain ⟨l1, l2, l3, l4, l5⟩ := h.lts
  have h1 := h.rd
  have h2 := h.lb
  refine ⟨h.net.frm hf a1.symm a2.symm a3.symm, hf.obj h.box (by omega), ownsRow_frm h.row hf (fun g hg => ?_), h.leave.frm hf (by omega), hs, h.rand.frm h.src hf, h.apart, h.frm.andThen hf (fun k _ e => .inr (.inr (.inr e))), h.lts, h.rd, hf.obj h.res (by omega), h.lb⟩
  have := (h.lows.2.2.2 g hg).2.2.2.2.2
  omega
theorem Rep.drew (h : Rep w0 Nb Rb Sb Pb Mb Rd Lb Lc A n r zs so cp scr wr nx xs D m vj js i) : Rep w0 Nb Rb Sb Pb Mb Rd Lb Lc A n r zs so cp scr wr.drew nx xs D m vj js i :=
  h.turn (T := fun _ => False) (Frm.refl _ _).drew (fun _ _ => False.elim) id id (h.net.frm (S := fun _ => False) (Frm.refl _ _).drew id id id) h.box (ownsRow_frm (T := fun _ => False) h.row (Frm.refl _ _).drew (fun _ _ => id))
theorem Rep.alloc (h : Rep w0 Nb Rb Sb Pb Mb Rd Lb Lc A n r zs so cp scr wr nx xs D m vj js i) (o : Obj) : Rep w0 Nb Rb Sb Pb Mb Rd Lb Lc A n r zs so cp scr (wr.alloc o) nx xs D m vj js i :=
  h.turn (T := fun _ => False) ((Frm.refl _ _).alloc o) (fun _ _ => False.elim) id id (h.net.frm (S := fun _ => False) ((Frm.refl _ _).alloc o) id id id) (heapA h.box) (ownsRow_frm (T := fun _ => False) h.row ((Frm.refl _ _).alloc o) (fun _ _ => id))
theorem Net.setNext {w : World} {next : Int} {ps : List Int} (h : Net w Nb Rb Pb Mb A n next ps D m) (x : Int) : Net (w.setCell ⟨Nb, 3, none⟩ (.int .i64 x)) Nb Rb Pb Mb A n x ps D m := by
  have hf : Frm (fun i => i = Nb) w (w.setCell ⟨Nb, 3, none⟩ (.int .i64 x)) := (Frm.refl (fun i => i = Nb) w).setCell (p := ⟨Nb, 3, none⟩) (fun _ => rfl) _
  refine ⟨?_, h.row.frm hf (fun e => h.np e.symm), h.len, ownsMap_frm h.map hf (fun e => h.nm e.symm)⟩
  rw [heap_setCell_same w Nb 3 _ 80 (.int .i64 x) h.box]; rfl
theorem Rep.next (h : Rep w0 Nb Rb Sb Pb Mb Rd Lb Lc A n r zs so cp scr wr nx xs D m vj js i) (x : Int) : Rep w0 Nb Rb Sb Pb Mb Rd Lb Lc A n r zs so cp scr (wr.setCell ⟨Nb, 3, none⟩ (.int .i64 x)) x xs D m vj js i := by
  obtain ⟨⟨b1, _, _⟩, ⟨b2, _, _⟩, _, b4⟩ := h.lows
  have hf : Frm (fun i => i = Nb) wr (wr.setCell ⟨Nb, 3, none⟩ (.int .i64 x)) := (Frm.refl (fun i => i = Nb) wr).setCell (p := ⟨Nb, 3, none⟩) (fun _ => rfl) _
  exact h.turn hf (fun k _ e => .inl e) b2.symm (fun e => by have := h.lts.1; omega) (h.net.setNext x) (hf.obj h.box b1.symm) (ownsRow_frm h.row hf (fun g hg => (b4 g hg).1))
theorem Rep.setRow (h : Rep w0 Nb Rb Sb Pb Mb Rd Lb Lc A n r zs so cp scr wr nx xs D m vj js i) (k : Nat) (x : Int) : Rep w0 Nb Rb Sb Pb Mb Rd Lb Lc A n r zs so cp scr (wr.setCell ⟨Pb, k, none⟩ (.int .i64 x)) nx (xs.set k x) D m vj js i := by
  obtain ⟨⟨_, b1, _⟩, ⟨_, b2, _⟩, _, b4⟩ := h.lows
  have hf : Frm (fun i => i = Pb) wr (wr.setCell ⟨Pb, k, none⟩ (.int .i64 x)) := (Frm.refl (fun i => i = Pb) wr).setCell (p := ⟨Pb, k, none⟩) (fun _ => rfl) _
  exact h.turn hf (fun k _ e => .inr (.inl e)) b2.symm (fun e => by have := h.lts.2.1; omega) (h.net.setRow k x) (hf.obj h.box b1.symm) (ownsRow_frm h.row hf (fun g hg => (b4 g hg).2.1))
theorem Rep.swap (h : Rep w0 Nb Rb Sb Pb Mb Rd Lb Lc A n r zs so cp scr wr nx xs D m vj js i) {p q : Nat} {x y : Int} (hx : x = xs.getD q 0) (hy : y = xs.getD p 0) : Rep w0 Nb Rb Sb Pb Mb Rd Lb Lc A n r zs so cp scr ((wr.setCell ⟨Pb, p, none⟩ (.int .i64 x)).setCell ⟨Pb, q, none⟩ (.int .i64 y)).drew nx (swp xs p q) D m vj js i := by
  have h1 := ((h.setRow p x).setRow q y).drew
  subst hx hy
  exact h1
theorem Net.grown {w w' : World} {next : Int} {ps : List Int} (h : Net w Nb Rb Pb Mb A n next ps D m) (hm : w'.ownsMap Tryf.prog 2 (plainElem (H := Unit) Tryf.prog 3) Mb m' D') (hg : w.grownBy w' (some Mb)) : Net w' Nb Rb Pb Mb A n next ps D' m' := by
  have hf : Frm (fun i => i = Mb) w w' := Frm.of_grown hg (fun k e _ => by cases e; rfl)
  exact ⟨hf.obj h.box h.nm, h.row.frm hf h.pm, h.len, hm⟩
theorem Rep.grown (h : Rep w0 Nb Rb Sb Pb Mb Rd Lb Lc A n r zs so cp scr wr nx xs D m vj js i) (hm : w'.ownsMap Tryf.prog 2 (plainElem (H := Unit) Tryf.prog 3) Mb m' D') (hg : wr.grownBy w' (some Mb)) : Rep w0 Nb Rb Sb Pb Mb Rd Lb Lc A n r zs so cp scr w' nx xs D' m' vj js i := by
  obtain ⟨⟨_, _, b1⟩, ⟨_, _, b2⟩, _, b4⟩ := h.lows
  have hf : Frm (fun i => i = Mb) wr w' := Frm.of_grown hg (fun k e _ => by cases e; rfl)
  exact h.turn hf (fun k _ e => .inr (.inr e)) b2.symm (fun e => by have := h.lts.2.2.1; omega) (h.net.grown hm hg) (hf.obj h.box b1.symm) (ownsRow_frm h.row hf (fun g hg => (b4 g hg).2.2.1))
/-- Behind the append, ahead of the store. -/
theorem Rep.mid (h : Rep w0 Nb Rb Sb Pb Mb Rd Lb Lc A n r zs so cp scr wr nx xs D m vj js i) {o : Obj} (hg : (wr.alloc o).grownBy w' vj.ownBlock) : w'.heap[Rd]? = some (.cells #[.int .i64 r, .slice (some ⟨Lb, 0, none⟩) zs.length Lc, vj] 43 (0, 0)) ∧ Frm (fun k => some k = vj.ownBlock) wr w' := by
  have hf : Frm (fun k => some k = vj.ownBlock) wr w' := ((Frm.refl _ _).alloc o).trans (Frm.of_grown hg (fun k e _ => e.symm))
  exact ⟨hf.obj h.box (fun e => (h.lows.2.2.2 Rd e.symm).2.2.2.1 rfl), hf⟩
theorem Rep.push (h : Rep w0 Nb Rb Sb Pb Mb Rd Lb Lc A n r zs so cp scr wr nx xs D m vj js i) {o : Obj} {a b : Int} {g cap : Nat} (hg : (wr.alloc o).grownBy w' vj.ownBlock) (hown : w'.ownsRow w0.heap.size 71 2 (.slice (some ⟨g, 0, none⟩) (js.length + 1) cap) (js.length + 1) (jcells js ++ [.int .i64 a, .int .i64 b])) :
    Rep w0 Nb Rb Sb Pb Mb Rd Lb Lc A n r zs so cp scr (w'.setCell ⟨Rd, 2, none⟩ (.slice (some ⟨g, 0, none⟩) (js.length + 1) cap)) nx xs D m (.slice (some ⟨g, 0, none⟩) (js.length + 1) cap) (js ++ [(a, b)]) i := by
  obtain ⟨l1, l2, l3, l4, l5⟩ := h.lts
  have h1 := h.rd
  obtain ⟨hb, hf⟩ := h.mid hg
  obtain ⟨⟨b1, b2, b3⟩, ⟨b4, b5, b6⟩, b7, b8⟩ := h.lows
  have hf2 : Frm (fun k => k = Rd ∨ some k = vj.ownBlock) wr (w'.setCell ⟨Rd, 2, none⟩ (.slice (some ⟨g, 0, none⟩) (js.length + 1) cap)) :=
    (hf.mono (T := fun k => k = Rd ∨ some k = vj.ownBlock) (fun k _ e => .inr e)).setCell (p := ⟨Rd, 2, none⟩) (fun _ => .inl rfl) _
  have no : ∀ k, k ≠ Rd → (∀ g, vj.ownBlock = some g → g ≠ k) → ¬ (k = Rd ∨ some k = vj.ownBlock) := fun k e1 e2 e => by
    rcases e with e | e
    · exact e1 e
    · exact e2 k e.symm rfl
  refine h.turn hf2 (fun k hk e => ?_) (no Lb b7 (fun g hg => (b8 g hg).2.2.2.2.1)) (no _ (by omega) (fun g hg => ne_obj (ownsRow_own h.row hg).2.choose_spec h.res (by simp))) (h.net.frm hf2 (no Nb b1 (fun g hg => (b8 g hg).1)) (no Pb b2 (fun g hg => (b8 g hg).2.1)) (no Mb b3 (fun g hg => (b8 g hg).2.2.1))) ?_ ?_
  · rcases e with e | e
    · omega
    · have := (b8 k e.symm).2.2.2.2.2; omega
  · rw [heap_setCell_same w' Rd 2 _ 43 _ hb]; rfl
  · rw [jcells_snoc, List.length_append]
    refine ownsRow_frm (T := fun k => k = Rd) hown ((Frm.refl (fun k => k = Rd) _).setCell (p := ⟨Rd, 2, none⟩) (fun _ => rfl) _) (fun g' hg' e => ?_)
    obtain ⟨_, cur, h2⟩ := ownsRow_own hown hg'
    exact ne_obj h2 hb (by simp) e

/-- What the map says. -/
def Counts (D : DataW Unit) (f : Int → Int) : Prop := ∀ v, D.atKey (.int .i64 v) (.lit (.int .i64 0)) = .lit (.int .i64 (f v))
end Go.Proofs.Qxb6003965aFmt

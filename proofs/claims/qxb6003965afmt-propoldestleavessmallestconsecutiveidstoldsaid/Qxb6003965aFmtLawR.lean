/-
  Seat b6003965aF: a round's end.
-/
import Derived.Test.Qxb6003965aFmtLawS
namespace Go.Proofs.Qxb6003965aFmt
open Go.RowKit Go.WideMaps Go.Maps Go.Shelf

/-- A round's end: the law's memory, the adversary's. -/
theorem round_done {w W Wf : World} {cb pb n : Nat} {A : Int} {R b C Sb g cap g' cap' l Sx Ux Rb : Nat} {so : Option Addr} {cp : Nat} {scr : List Int} {x : Pt} {r : Loop}
    (h : LawAt w cb pb (pb + 1) n A R b C Sb x.Fb x.Nb x.Pb x.Mb x.k W g cap) (ha : Adv W Sx Ux Rb Sb n A R b C so cp scr x (x.k + 1)) (hl : W.heap[l]? = some (.loop r)) (hlw : w.heap.size ≤ l) (hU : Ux ≠ pb + 1)
    (hF : Frm (fun z => z = pb + 1 ∨ z = pb ∨ z = l) W Wf) (hk : Wf.heap[pb + 1]? = some (.cells #[.int .i64 ((x.k + 1 : Nat) : Int)] 3 (0, 0))) (hp : Wf.heap[pb]? = some (.cells #[.slice (some ⟨g', 0, none⟩) n cap'] 39 (0, 0)))
    (hrow : IRow Wf g' cap' (consec ((loK b C (x.k + 1) : Nat) : Int) n)) (hg : W.heap.size ≤ g') :
    (∃ g cap, LawAt w cb pb (pb + 1) n A R b C Sb x.Fb x.Nb x.Pb x.Mb (x.k + 1) Wf g cap) ∧ Adv Wf Sx Ux Rb Sb n A R b C so cp scr x (x.k + 1) := by
  have no : ∀ z o, W.heap[z]? = some o → (∀ cur, o ≠ .cells cur 3 (0, 0)) → (∀ cur, o ≠ .cells cur 39 (0, 0)) → (∀ r, o ≠ .loop r) → ¬ (z = pb + 1 ∨ z = pb ∨ z = l) := by
    rintro z o ho h1 h2 h3 (e | e | e)
    · exact ne_obj ho h.kbox (h1 _) e
    · exact ne_obj ho h.pbox (h2 _) e
    · exact ne_obj ho hl (h3 _) e
  have np : cb ≠ pb := ne_obj h.cbox h.pbox (by simp)
  have ncl : cb ≠ l := ne_obj h.cbox hl (by simp)
  have hown := h.own
  have h0 := h.below.size
  have hx := no _ _ h.sx (by simp) (by simp) (by simp)
  have hq := no _ _ h.res (by simp) (by simp) (by simp)
  have hc : ¬ (cb = pb + 1 ∨ cb = pb ∨ cb = l) := by
    rintro (e | e | e)
    · exact h.kc e.symm
    · exact np e
    · exact ncl e
  obtain ⟨ps, D, m, i, hnet, hperm, hsrc⟩ := ha.sys.net
  obtain ⟨es, cl, hmb⟩ := map_block hnet.map
  have b1 := lt_of_block ha.sys.fb
  have b2 := lt_of_block hnet.box
  have b3 := hnet.row.lt
  have b4 := lt_of_block hmb
  have b5 := lt_of_block hsrc.box
  constructor
  · refine ⟨g', cap', hF.obj h.sx hx, hF.obj h.res hq, hF.obj h.cbox hc, hp, hk, hrow, h.below.trans (hF.below h0 (fun z hz e => by omega)), ⟨hown.1, hown.2.1, hown.2.2.1, by omega⟩, h.kc, ?_, h.made⟩
    intro z hz
    rcases hz with e | e | e | e | e | e
    · exact h.apart z (.inl e)
    · exact h.apart z (.inr (.inl e))
    · exact h.apart z (.inr (.inr (.inl e)))
    · exact h.apart z (.inr (.inr (.inr (.inl e))))
    · exact h.apart z (.inr (.inr (.inr (.inr (.inl e)))))
    · omega
  · refine ⟨ha.sys.frm hF (fun z cur t hz ht => no z _ hz ?_ ?_ (by simp)) (fun z es cl hz => no z _ hz (by simp) (by simp) (by simp)) (fun b' off y hcell => ?_), hF.obj ha.ux ?_⟩
    · intro cur2 e; simp at e; obtain ⟨_, rfl⟩ := e; simp at ht
    · intro cur2 e; simp at e; obtain ⟨_, rfl⟩ := e; simp at ht
    · rintro (e | e | e)
      · rw [e, cell_of_row _ _ _ _ _ _ h.kbox] at hcell
        rcases off with _ | j <;> simp at hcell
      · rw [e, cell_of_row _ _ _ _ _ _ h.pbox] at hcell
        rcases off with _ | j <;> simp at hcell
      · rw [e] at hcell; simp [World.cell?, hl] at hcell
    · rintro (e | e | e)
      · exact hU e
      · exact ne_obj ha.ux h.pbox (by simp) e
      · exact ne_obj ha.ux hl (by simp) e

/-- .. from the world behind 'k++' on: the new row is laid, sorted. -/
theorem round_end {w W W3 Wz : World} {cb pb n : Nat} {A : Int} {R b C Sb g cap cap' l D Sx Ux Rb : Nat} {so : Option Addr} {cp : Nat} {scr : List Int} {x : Pt} {r r' : Loop}
    (h : LawAt w cb pb (pb + 1) n A R b C Sb x.Fb x.Nb x.Pb x.Mb x.k W g cap) (ha : Adv W Sx Ux Rb Sb n A R b C so cp scr x (x.k + 1)) (hl : W.heap[l]? = some (.loop r)) (hlw : w.heap.size ≤ l) (hU : Ux ≠ pb + 1) (hlp : pb + 1 < l)
    (hF3 : Frm (fun z => z = pb + 1 ∨ z = pb ∨ z = l) W W3) (hsz : W.heap.size < W3.heap.size) (hl3 : W3.heap[l]? = some (.loop r')) (hD3 : W3.heap[D]? = some (.deferred (some []))) (hp3 : W3.heap[pb]? = some (.cells #[.slice (some ⟨g, 0, none⟩) n cap] 39 (0, 0))) (hk3 : W3.heap[pb + 1]? = some (.cells #[.int .i64 ((x.k : Int) + 1)] 3 (0, 0)))
    (hF6 : Frm (fun z => z = pb ∨ z = W3.heap.size + 1) W3 Wz) (hp6 : Wz.heap[pb]? = some (.cells #[.slice (some ⟨W3.heap.size + 1, 0, none⟩) n cap'] 39 (0, 0))) (hrow6 : IRow Wz (W3.heap.size + 1) cap' (consec ((loK b C (x.k + 1) : Nat) : Int) n)) :
    LoopAt Wz l D r' ∧ (∃ g cap, LawAt w cb pb (pb + 1) n A R b C Sb x.Fb x.Nb x.Pb x.Mb (x.k + 1) (Wz.putObj l (.loop r)) g cap) ∧ Adv (Wz.putObj l (.loop r)) Sx Ux Rb Sb n A R b C so cp scr x (x.k + 1) := by
  have hlW := lt_of_block hl
  have hDW := lt_of_block hD3
  have hDp : D ≠ pb := ne_obj hD3 hp3 (by simp)
  have hlz := hF6.obj hl3 (by omega)
  have hkz := hF6.obj hk3 (by omega)
  have hz := hF6.size
  have hne : W3.heap.size + 1 ≠ l := by omega
  refine ⟨⟨hlz, hF6.obj hD3 (by omega)⟩, ?_⟩
  refine round_done (g' := W3.heap.size + 1) (cap' := cap') h ha hl hlw hU ?_ ?_ ?_ ?_ (by omega)
  · exact (hF3.andThen hF6 (fun z hz e => by omega)).andThen (Frm.putObj Wz l (.loop r)) (fun z _ e => .inr (.inr e))
  · rw [World.putObj_heap_other (by omega), hkz]; simp
  · rw [World.putObj_heap_other (by omega)]; exact hp6
  · exact hrow6.frm (Frm.putObj Wz l (.loop r)) hne
end Go.Proofs.Qxb6003965aFmt

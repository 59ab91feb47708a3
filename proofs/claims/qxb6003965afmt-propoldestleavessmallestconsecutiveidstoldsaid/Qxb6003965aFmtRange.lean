/-
  Seat b6003965aF: A RANGE OVER A FUNCTION whose iterator WRITES MEMORY OF ITS OWN between two rounds: the law, after the guide's Derived/RangeFuncKeeps.lean: the iterator's word and the body's word are whatever relations the two proofs choose.
-/
import Derived.Test.Qxb6003965aFmtFrame
import Derived.RangeFuncNested
import Derived.RangeFuncBound
import Derived.RangeFuncCalls
import Derived.RangeFuncLeaves
import Derived.Shelf.Abstract
import Derived.Shelf.RegionOpen
import Derived.OwnWalkIn
import Derived.TacticsInMore
import Derived.LoopNIn
import Derived.LoopIn
namespace Go.Proofs.Qxb6003965aFmt
open Go.RowKit

/-- The loop's record and its block for deferred calls, between two rounds. -/
def LoopAt (W : World) (l D : Nat) (r : Loop) : Prop := W.heap[l]? = some (.loop r) ∧ W.heap[D]? = some (.deferred (some []))

theorem LoopAt.frm {S : Nat → Prop} {W W' : World} {l D : Nat} {r : Loop} (h : LoopAt W l D r) (hf : Frm S W W') (h1 : ¬ S l) (h2 : ¬ S D) : LoopAt W' l D r := ⟨hf.obj h.1 h1, hf.obj h.2 h2⟩
theorem Frm.putObj (W : World) (l : Nat) (o : Obj) : Frm (fun k => k = l) W (W.putObj l o) :=
  Frm.of_grown (grownBy_putObj' W l o) (fun k e _ => by cases e; rfl)

theorem rangeFunc_mine {n : Nat} {P : Program} {α : Type} {g : Operand} {ps : Array Tmp} {assign body : Code} {Q : Exit → Act → World → Prop} {a : Act} {w : World}
    {gf : Nat} {lb : Array Value} (hg : a.eval g = .func (.func gf) #[] lb) (eg : ∀ args w, (callFunc gf args).run P w = .ok (.enter gf args) w)
    (encs : α → Array Value) (hps : ∀ x, (encs x).size = ps.size)
    (I : α → World → Prop) (O : α → World → World → Prop) (Fin : World → Prop)
    (hiter : ∀ (r : Loop), r.params = ps → LoopAt ((w.alloc (.deferred (some []))).alloc (.loop r)) (w.heap.size + 1) w.heap.size r →
      (∀ x W, I x W → LoopAt W (w.heap.size + 1) w.heap.size r → YieldAt Fence.wide (n - 1 - 1) P (w.heap.size + 1) (encs x) W fun e W' => e = .returned (.bool true) ∧ O x W W' ∧ LoopAt W' (w.heap.size + 1) w.heap.size r) →
      CallsIn Fence.wide (n - 1) P gf (#[.func (.yield (w.heap.size + 1)) #[] #[]] ++ lb) ((w.alloc (.deferred (some []))).alloc (.loop r)) fun e W' => (∃ v, e = .returned v) ∧ Fin W' ∧ LoopAt W' (w.heap.size + 1) w.heap.size r)
    (hround : ∀ (r : Loop) x W, I x W → LoopAt W (w.heap.size + 1) w.heap.size r →
      assign.wpIn (Fence.wide.inRound (w.heap.size + 1)) (n - 1 - 1) P (Exit.then (fun a₁ W₁ => W₁.heap[w.heap.size + 1]? = some (.loop r) ∧
        body.wpIn (Fence.wide.inRound (w.heap.size + 1)) (n - 1 - 1) P (fun e _ W₃ => e = .normal ∧ LoopAt W₃ (w.heap.size + 1) w.heap.size { r with state := .busy } ∧ O x W (W₃.putObj (w.heap.size + 1) (.loop r))) a₁ (W₁.putObj (w.heap.size + 1) (.loop { r with state := .busy }))) (fun _ _ _ => False))
        { tmps := (ps.zip (encs x)).foldl (fun t (p, v) => t.setIfInBounds p v) a.tmps, defers := [] } W)
    (hdone : ∀ (r : Loop) W W', Fin W → LoopAt W (w.heap.size + 1) w.heap.size r → Frm (fun k => k = w.heap.size + 1) W W' → W'.heap[w.heap.size]? = some (.deferred (some [])) → Q .normal { a with defers := { target := .collected w.heap.size, args := #[] } :: a.defers } W') :
    (Code.rangeFunc g ps assign body).wpIn Fence.wide n P Q a w := by
  refine wpIn_rangeFunc ?_
  intro fn hfn
  have hro : Fence.wide.round = none := rfl
  rw [hro]
  obtain ⟨rec, hrec⟩ : ∃ rec : Loop, rec = { state := .ready, pending := none, fn, tmps := a.tmps, params := ps, assign, body, defers := w.heap.size } := ⟨_, rfl⟩
  have hL1 : ((w.alloc (.deferred (some []))).alloc (.loop rec)).heap[w.heap.size + 1]? = some (.loop rec) := by
    have := World.alloc_heap_new (w.alloc (.deferred (some []))) (.loop rec); rwa [World.size_alloc] at this
  have hK1 : ((w.alloc (.deferred (some []))).alloc (.loop rec)).heap[w.heap.size]? = some (.deferred (some [])) :=
    (Below.heap_alloc _ _ _ (by simp)).trans (World.alloc_heap_new w _)
  refine ⟨w.heap.size + 1, [{ target := .collected w.heap.size, args := #[] }], (w.alloc (.deferred (some []))).alloc (.loop rec), { target := .fn (.func gf) lb, args := #[.func (.yield (w.heap.size + 1)) #[] #[]] }, (w.alloc (.deferred (some []))).alloc (.loop rec), gf,
    #[.func (.yield (w.heap.size + 1)) #[] #[]] ++ lb, (w.alloc (.deferred (some []))).alloc (.loop rec), ?_, ?_, ?_, ?_, (fun h => by cases h), ?_⟩
  · rw [hrec]; exact run_enterLoop_outer _ _ _ _ _
  · simp only [resolve, hg]
    simp [go_sem]
  · intro f' hf'; trivial
  · simp [invoke, go_sem, eg]
  · refine (hiter rec (by rw [hrec]) ⟨hL1, hK1⟩ ?_).mono ?_
    · rintro x W hi ⟨hl, hk⟩
      have hlt : w.heap.size + 1 < W.heap.size := (Array.getElem?_eq_some_iff.1 hl).1
      have hy := run_yield (P := P) (args := encs x) hl (by rw [hrec]; exact hps x)
      have hrd := hround rec x W hi ⟨hl, hk⟩
      rw [hrec] at hy
      refine ⟨fn, _, assign, body, hy, roundIn_of_wpIn trivial (wpIn_mono hrd ?_)⟩
      rintro e a1 W1 hp
      cases e with
      | normal =>
        obtain ⟨hl1, hb⟩ := hp
        refine ⟨_, run_beginRound hl1 (by rw [hrec]), wpIn_mono hb ?_⟩
        rintro e2 a2 W3 ⟨rfl, ⟨hl3, hk3⟩, hO⟩
        have he := run_endRound (P := P) none hl3
        have e1 : ({ ({ rec with state := .busy } : Loop) with state := if (none : Option Code).isNone then .ready else .done, pending := none } : Loop) = rec := by rw [hrec]; rfl
        rw [e1] at he
        refine ⟨_, _, he, rfl, hO, World.putObj_heap_same (Array.getElem?_eq_some_iff.1 hl3).1, (World.putObj_heap_other (by omega)).trans hk3⟩
      | ret => exact hp.elim
      | exit id => exact hp.elim
      | goto t => exact hp.elim
      | panic ch => exact hp.elim
      | outgrown => exact hp.elim
    · rintro e W2 ⟨⟨v, rfl⟩, hF, hl, hk⟩
      have he := run_endLoop (P := P) hl (by rw [hrec]; simp)
      refine ⟨none, _, by rw [he, hrec], hdone rec W2 _ hF ⟨hl, hk⟩ (Frm.putObj _ _ _) ((World.putObj_heap_other (by omega)).trans hk)⟩
end Go.Proofs.Qxb6003965aFmt

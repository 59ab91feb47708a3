/-
  Seat b6003965aF: a quiet region inside a round of a range over a function: after Derived/Sort/QuietThIn.lean.
-/
import Derived.Test.Qxb6003965aFmtRange
import Derived.Sort.QuietIn
namespace Go.Proofs.Qxb6003965aFmt

/-- It defers nothing. -/
def noDefer (o : Oper) : Bool := match o.op with | .defer _ => false | _ => true

theorem wpOpIn_round {l n : Nat} {P : Program} {ops : Array Oper} {Q : Exit → Act → World → Prop} {i : Nat} {K : Act → World → Prop} {a : Act} {w : World} (hnd : ops.all noDefer = true)
    (h : wpOpIn Fence.wide n P ops Q i K a w) : wpOpIn (Fence.wide.inRound l) n P ops Q i K a w := by
  unfold wpOpIn at h ⊢
  cases ho : ops[i]? with
  | none => simp only [ho] at h ⊢; exact h
  | some o =>
    simp only [ho] at h ⊢
    split
    · rename_i hw
      simp only [hw, if_true] at h
      have hd : noDefer o = true := by
        rw [Array.all_eq_true] at hnd
        obtain ⟨hi, e⟩ := Array.getElem?_eq_some_iff.1 ho
        rw [← e]; exact hnd i hi
      have hs : o.semAt (Fence.wide.inRound l).round a.eval = o.semAt Fence.wide.round a.eval := by
        have hd' : ∀ c, o.op ≠ .defer c := fun c e => by simp [noDefer, e] at hd
        rw [Oper.semAt_eq _ _ _ hd', Oper.semAt_eq _ _ _ hd']
      refine ⟨h.1, ?_⟩
      rw [hs]
      exact h.2
    · rename_i hw
      simp only [hw] at h
      exact h

theorem wpAnyIn_round {l n : Nat} {P : Program} {md : Region.Mode} {ops : Array Oper} {Q : Exit → Act → World → Prop} (hnd : ops.all noDefer = true) : ∀ (fuel : Nat) (listed : Array Bool) (a : Act) (w : World),
    wpAnyIn Fence.wide n P md ops Q fuel listed a w → wpAnyIn (Fence.wide.inRound l) n P md ops Q fuel listed a w
  | 0, _, _, _, h => h
  | fuel + 1, _, _, _, h => ⟨h.1, fun i hi => wpOpIn_round hnd (wpOpIn_mono (fun a' w' h' => wpAnyIn_round hnd fuel _ a' w' h') (h.2 i hi))⟩

theorem quiet_round {l' n : Nat} {P : Program} {id : Nat} {Q : Exit → Act → World → Prop} {a : Act} {w : World} {l : List Oper} (hm : P.follows .mixedOrders = true) (hB : Region.lexB .any l.toArray = true) (hnd : l.toArray.all noDefer = true)
    (h : wpQuietIn Fence.wide n P l.toArray (fun w' => ∃ n, w' = w.drewN n) (fun a' => ∀ w', (∃ n, w' = w.drewN n) → Q .normal a' w') l a) : (Code.region id l.toArray true).wpIn (Fence.wide.inRound l') n P Q a w := by
  simp only [Region.lexB, Bool.and_eq_true] at hB
  refine wpIn_region_any hm (wpAnyIn_round hnd _ _ _ _ ?_)
  refine wpAnyIn_of_quiet (F := Fence.wide) (C := fun w' => ∃ n, w' = w.drewN n) (Q := fun a' => ∀ w', (∃ n, w' = w.drewN n) → Q .normal a' w') rfl (fun _ w' hw' h => h w' hw') _ _ _ _ ⟨1, rfl⟩ ?_
  have := wpAnyQIn_lex (F := Fence.wide) (n := n) (C := fun w' => ∃ n, w' = w.drewN n) (md := .any) hB.1 l 0 (Array.replicate l.toArray.size false) a (by simp) (by simpa using hB.2) (by simpa using h)
  simpa using this
end Go.Proofs.Qxb6003965aFmt

/-
  Seat b6003965aF: clear(m); what the map says.
-/
import Derived.Test.Qxb6003965aFmtReplW
namespace Go.Proofs.Qxb6003965aFmt
open Go.RowKit Go.WideMaps Go.Maps Go.ChangeMaps Go.MapKept
open Go.WideElems (Fit rd rg pl rd_val elemAt)

theorem run_clear {P : Program} {w : World} {b n : Nat} {D : DataW Unit} {k e t : TypeId} {R : Value → Option (DataW Unit × List MemPlace)} (h : w.ownsMap P k R b n D) (ht : P.underlying t = some (.map k e)) (ty : TypeId) :
    ∃ w', (Builtin.clear_ #[t] ty #[.map (some b)]).run P w = .ok (.tuple #[]) w' ∧ w'.ownsMap P k R b 0 (.map []) ∧ w.grownBy w' (some b) := by
  obtain ⟨es, clock, hb, F, hs, rfl⟩ := h
  refine ⟨setBlock w b (.map #[] clock), ?_, ⟨#[], clock, heap_setBlock_same hb _, ?_, Nat.le_refl _, rfl⟩, ⟨rfl, rfl, rfl, by simp [setBlock], fun i _ hi => heap_setBlock_other hb _ (fun e => hi (by rw [e]))⟩⟩
  · simp [Builtin.clear_, run_underlying ht, MapKept.run_getObj_map hb, MapKept.run_setObj_map _ hb, Result.andThen, setBlock]
  · exact ⟨by simp, stamped_empty _, by simp⟩

theorem wpList_clear_own {P : Program} (w : World) {ops : Array Oper} {rest : List Oper} {o : Oper} {a : Act} {Q : Exit → Act → World → Prop} (hg : o.guard = none) (m : Operand) (t : TypeId) (hop : o.op = Op.call { callee := Callee.builtin Builtin.clear, args := #[m], argTypes := #[t] })
    (k e : TypeId) (ht : P.underlying t = some (.map k e)) (R : Value → Option (DataW Unit × List MemPlace)) (b n : Nat) (D : DataW Unit) (hm : a.eval m = .map (some b)) (hown : w.ownsMap P k R b n D)
    (hK : ∀ w', w'.ownsMap P k R b 0 (.map []) → w.grownBy w' (some b) → wpList P ops Q rest (a.put o.dst (.tuple #[])) w') :
    wpList P ops Q (o :: rest) a w := by
  refine wpList_plain hg fun K' hK' => ?_
  obtain ⟨w', hrun, r1, r2⟩ := run_clear hown ht o.type
  unfold Oper.wp
  simp [execOp, hop, resolve, invoke, builtin, hm, hrun, Result.andThen]
  exact hK' _ _ (hK w' r1 r2)

theorem Counts.start : Counts (.map []) (fun _ => 0) := fun v => by rfl
theorem Counts.put {D : DataW Unit} {f : Int → Int} (h : Counts D f) (hD : IsMap D) (v x : Int) : Counts (D.put (.int .i64 v) (.lit (.int .i64 x))) (fun u => if u = v then x else f u) := by
  intro u
  by_cases e : u = v
  · subst e; rw [atKey_put_same (k := .int .i64 u) hD trivial]; simp
  · rw [atKey_put_other (by simpa using e)]; simp only [if_neg e]; exact h u
end Go.Proofs.Qxb6003965aFmt

/-
  Seat b6003965aF: silent.
-/
import Derived.Test.Qxb6003965aFmtLeave
namespace Go.Proofs.Qxb6003965aFmt
open Go.RowKit Go.WideMaps Go.Maps

set_option maxHeartbeats 400000 in
theorem silent_any (r : Int) (w : World) :
    Calls Tryf.prog 41 #[.int .i64 r] w fun e w' => e = .returned (.agg #[.int .i64 r, .slice (some ⟨w.heap.size + 1, 0, none⟩) 0 0, .slice (some ⟨w.heap.size + 1 + 1, 0, none⟩) 0 0]) ∧ Below w.heap.size w w' ∧ w'.heap.size = w.heap.size + 1 + 1 + 1 ∧ w'.heap[w.heap.size + 1 + 1]? = some (.cells #[] 71) := by
  go_enter Tryf.func41, Tryf.ntmps41
  go_wp2
  refine bodyPost_ret (v := .agg #[.int .i64 r, .slice (some ⟨w.heap.size + 1, 0, none⟩) 0 0, .slice (some ⟨w.heap.size + 1 + 1, 0, none⟩) 0 0]) (by simp [results, Tryf.results41, go_sem]) rfl ⟨rfl, (((Below.refl _ _).alloc (Nat.le_refl _) _).alloc (by simp) _).alloc (by simp; omega) _, by simp, ?_⟩
  have := heap_alloc_new ((w.alloc (.cells #[.int .i64 r, .slice (some ⟨w.heap.size + 1, 0, none⟩) 0 0, .slice (some ⟨w.heap.size + 1 + 1, 0, none⟩) 0 0] 43)).alloc (.cells #[] 2)) (.cells #[] 71)
  simpa using this
end Go.Proofs.Qxb6003965aFmt

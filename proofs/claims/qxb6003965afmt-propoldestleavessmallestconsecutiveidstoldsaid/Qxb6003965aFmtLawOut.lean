/-
  Seat b6003965aF: the law, where it looks no further.
-/
import Derived.Test.Qxb6003965aFmtIter
namespace Go.Proofs.Qxb6003965aFmt
open Go.RowKit Go.Shelf Go.Stop

attribute [local go_sem] Oper.semAt_some

/-- The law says yes; whatever was there is as it was. -/
def Yes (w : World) (e : Ending) (w' : World) : Prop := e = .returned (.bool true) ∧ Below w.heap.size w w'

set_option maxRecDepth 100000 in
set_option maxHeartbeats 1000000 in
theorem out_rounds (n A rr b C : Int) (vo : Option Addr) (len vc : Nat) (w : World) (h : 1048576 < rr) :
    Calls Tryf.prog 4 #[.agg #[.int .i64 n, .int .i64 A, .int .i64 rr, .int .i64 b, .int .i64 C], .slice vo len vc] w (Yes w) := by
  refine (callsIn_wide (n := 4)).1 ?_
  refine callsIn_of_wp_marks Tryf.func4 rfl trivial ?_ rfl
  simp only [Tryf.ntmps4, List.size_toArray, List.length_cons, List.length_nil, Nat.reduceAdd, Nat.reduceSub, Array.replicate_succ, Array.replicate_zero, List.push_toArray, List.append_toArray, List.nil_append, List.cons_append]
  gi_wp2
  refine ⟨trivial, ?_⟩
  gi_wp2
  refine ⟨.bool true, ?_, rfl, ((Below.refl _ _).alloc (Nat.le_refl _) _).alloc (by simp) _⟩
  simp [results, Tryf.f4, go_sem]

set_option maxRecDepth 100000 in
set_option maxHeartbeats 1000000 in
theorem out_nodes (n A rr b C : Int) (vo : Option Addr) (len vc : Nat) (w : World) (h0 : rr ≤ 1048576) (h : 1048576 < n) :
    Calls Tryf.prog 4 #[.agg #[.int .i64 n, .int .i64 A, .int .i64 rr, .int .i64 b, .int .i64 C], .slice vo len vc] w (Yes w) := by
  refine (callsIn_wide (n := 4)).1 ?_
  refine callsIn_of_wp_marks Tryf.func4 rfl trivial ?_ rfl
  simp only [Tryf.ntmps4, List.size_toArray, List.length_cons, List.length_nil, Nat.reduceAdd, Nat.reduceSub, Array.replicate_succ, Array.replicate_zero, List.push_toArray, List.append_toArray, List.nil_append, List.cons_append]
  gi_wp2
  refine ⟨trivial, ?_⟩
  gi_wp2
  refine ⟨.bool true, ?_, rfl, ((Below.refl _ _).alloc (Nat.le_refl _) _).alloc (by simp) _⟩
  simp [results, Tryf.f4, go_sem]

set_option maxRecDepth 100000 in
set_option maxHeartbeats 1000000 in
theorem out_len (n A rr b C : Int) (vo : Option Addr) (len vc : Nat) (w : World) (h0 : rr ≤ 1048576) (h1 : n ≤ 1048576) (h : 1048576 < len) :
    Calls Tryf.prog 4 #[.agg #[.int .i64 n, .int .i64 A, .int .i64 rr, .int .i64 b, .int .i64 C], .slice vo len vc] w (Yes w) := by
  refine (callsIn_wide (n := 4)).1 ?_
  refine callsIn_of_wp_marks Tryf.func4 rfl trivial ?_ rfl
  simp only [Tryf.ntmps4, List.size_toArray, List.length_cons, List.length_nil, Nat.reduceAdd, Nat.reduceSub, Array.replicate_succ, Array.replicate_zero, List.push_toArray, List.append_toArray, List.nil_append, List.cons_append]
  gi_wp2
  refine ⟨trivial, ?_⟩
  gi_wp2
  refine ⟨.bool true, ?_, rfl, ((Below.refl _ _).alloc (Nat.le_refl _) _).alloc (by simp) _⟩
  simp [results, Tryf.f4, go_sem]

set_option maxRecDepth 100000 in
set_option maxHeartbeats 1000000 in
theorem out_bad (F : Interp) (n A rr b C : Int) (vo : Option Addr) (len vc : Nat) (w : World) (h0 : rr ≤ 1048576) (h1 : n ≤ 1048576) (h2 : len ≤ 1048576) (hF : F.answers w.tape) (hbad : ¬ Okay n A rr b C) :
    Calls Tryf.prog 4 #[.agg #[.int .i64 n, .int .i64 A, .int .i64 rr, .int .i64 b, .int .i64 C], .slice vo len vc] w (Yes w) := by
  refine (callsIn_wide (n := 4)).1 ?_
  refine callsIn_of_wp_marks Tryf.func4 rfl trivial ?_ rfl
  simp only [Tryf.ntmps4, List.size_toArray, List.length_cons, List.length_nil, Nat.reduceAdd, Nat.reduceSub, Array.replicate_succ, Array.replicate_zero, List.push_toArray, List.append_toArray, List.nil_append, List.cons_append]
  have H9 := hidP (zcheck_bad F n A rr b C ((w.alloc (.cells #[.int .i64 n, .int .i64 A, .int .i64 rr, .int .i64 b, .int .i64 C] 30)).alloc (.cells #[.bool false] 4)) hF hbad)
  clear hF hbad
  gi_wp2
  refine ⟨trivial, callsIn_wide.2 (H9.out.mono ?_)⟩
  rintro e w1 ⟨t, v, rfl, hB⟩
  have e1 : (w.alloc (.cells #[.int .i64 n, .int .i64 A, .int .i64 rr, .int .i64 b, .int .i64 C] 30)).heap.size = w.heap.size + 1 := by simp
  have e2 : ((w.alloc (.cells #[.int .i64 n, .int .i64 A, .int .i64 rr, .int .i64 b, .int .i64 C] 30)).alloc (.cells #[.bool false] 4)).heap.size = w.heap.size + 1 + 1 := by simp
  have hq := Below.obj hB (k := w.heap.size + 1) (by rw [e2]; omega) (by have := heap_alloc_new (w.alloc (.cells #[.int .i64 n, .int .i64 A, .int .i64 rr, .int .i64 b, .int .i64 C] 30)) (.cells #[.bool false] 4); rw [e1] at this; exact this)
  have hc := cell_of_one hq
  have hf := free_of_one hq
  have R : Hid (Yes w (.returned (.bool true)) (w1.setCell ⟨w.heap.size + 1, 0, none⟩ (.bool true))) := ⟨rfl, ((((Below.refl _ _).alloc (Nat.le_refl _) _).alloc (by simp) _).trans (hB.mono (by simp; omega))).setCell (p := ⟨w.heap.size + 1, 0, none⟩) (by simp) _⟩
  have hc2 : (w1.setCell ⟨w.heap.size + 1, 0, none⟩ (.bool true)).cell? ⟨w.heap.size + 1, 0, none⟩ = some (.bool true) := cell_of_one (one_setCell hq)
  clear hB hq H9 e1 e2
  gi_wp2
  refine ⟨.bool true, ?_, R.out⟩
  clear R
  simp [results, Tryf.f4, go_sem, hc2]
end Go.Proofs.Qxb6003965aFmt

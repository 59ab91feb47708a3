/-
  Seat b6003965aF: the checks of the settings.
-/
import Derived.Test.Qxb6003965aFmtFrame
import Derived.Test.Qxb6003965aFmtFacts
namespace Go.Proofs.Qxb6003965aFmt
open Go.RowKit Go.Extern.Stop Go.Stop Go.Extern

/-- It hands back an error that is not nil; nothing old has turned. -/
def Refuses (w : World) (e : Ending) (w' : World) : Prop := ∃ t v, e = .returned (.iface t v) ∧ Below w.heap.size w w'
/-- It hands back nil; nothing old has turned. -/
def Passes (w : World) (e : Ending) (w' : World) : Prop := e = .returned .nilIface ∧ Below w.heap.size w w'

attribute [local go_sem] call56 guard0 fmt0 fmt0r fmt1 fmt1r fmt2 fmt2r fmt3 fmt3r fmt4 fmt4r fmt5 fmt5r fmt6 fmt6r fmt7 fmt7r op3_100 op3_100w ptr111 elem111 isError111

set_option maxHeartbeats 400000 in
theorem model_bad1 (F : Interp) (n A : Int) (w : World) (hF : F.answers w.tape) (h : n < 1) :
    Calls Tryf.prog 37 #[.agg #[.int .i64 n, .int .i64 A]] w (Refuses w) := by
  have hF' := answers_open hF
  go_enter Tryf.func37, Tryf.ntmps37
  go_wp2
  go_ret
  exact ⟨_, _, rfl, (by repeat (first | exact Below.refl _ _ | refine Below.drew ?_ | refine Below.alloc ?_ (by simp <;> omega) _))⟩
set_option maxHeartbeats 400000 in
theorem model_bad2 (F : Interp) (n A : Int) (w : World) (hF : F.answers w.tape) (h : 2147483647 < n) :
    Calls Tryf.prog 37 #[.agg #[.int .i64 n, .int .i64 A]] w (Refuses w) := by
  have hF' := answers_open hF
  have h1 : ¬ n < 1 := by omega
  go_enter Tryf.func37, Tryf.ntmps37
  go_wp2
  go_ret
  exact ⟨_, _, rfl, (by repeat (first | exact Below.refl _ _ | refine Below.drew ?_ | refine Below.alloc ?_ (by simp <;> omega) _))⟩
set_option maxHeartbeats 400000 in
theorem model_bad3 (F : Interp) (n A : Int) (w : World) (hF : F.answers w.tape) (h : 1 ≤ n) (h2 : n ≤ 2147483647) (h3 : A < 1) :
    Calls Tryf.prog 37 #[.agg #[.int .i64 n, .int .i64 A]] w (Refuses w) := by
  have hF' := answers_open hF
  go_enter Tryf.func37, Tryf.ntmps37
  go_wp2
  go_ret
  exact ⟨_, _, rfl, (by repeat (first | exact Below.refl _ _ | refine Below.drew ?_ | refine Below.alloc ?_ (by simp <;> omega) _))⟩
theorem model_bad (F : Interp) (n A : Int) (w : World) (hF : F.answers w.tape) (h : ¬ (1 ≤ n ∧ n ≤ 2147483647 ∧ 1 ≤ A)) : Calls Tryf.prog 37 #[.agg #[.int .i64 n, .int .i64 A]] w (Refuses w) := by
  by_cases h1 : n < 1
  · exact model_bad1 F n A w hF h1
  by_cases h2 : 2147483647 < n
  · exact model_bad2 F n A w hF h2
  exact model_bad3 F n A w hF (by omega) (by omega) (by omega)
set_option maxHeartbeats 400000 in
theorem model_ok (n A : Int) (w : World) (h : 1 ≤ n) (h2 : n ≤ 2147483647) (h3 : 1 ≤ A) :
    Calls Tryf.prog 37 #[.agg #[.int .i64 n, .int .i64 A]] w (Passes w) := by
  go_enter Tryf.func37, Tryf.ntmps37
  go_wp2
  go_ret
  exact ⟨rfl, (by repeat (first | exact Below.refl _ _ | refine Below.drew ?_ | refine Below.alloc ?_ (by simp <;> omega) _))⟩
set_option maxHeartbeats 400000 in
theorem rounds_bad (F : Interp) (r : Int) (w : World) (hF : F.answers w.tape) (h : r < 1) :
    Calls Tryf.prog 38 #[.int .i64 r] w (Refuses w) := by
  have hF' := answers_open hF
  go_enter Tryf.func38, Tryf.ntmps38
  go_wp2
  go_ret
  exact ⟨_, _, rfl, (by repeat (first | exact Below.refl _ _ | refine Below.drew ?_ | refine Below.alloc ?_ (by simp <;> omega) _))⟩
set_option maxHeartbeats 400000 in
theorem rounds_ok (r : Int) (w : World) (h : 1 ≤ r) :
    Calls Tryf.prog 38 #[.int .i64 r] w (Passes w) := by
  go_enter Tryf.func38, Tryf.ntmps38
  go_wp2
  go_ret
  exact ⟨rfl, (by repeat (first | exact Below.refl _ _ | refine Below.drew ?_ | refine Below.alloc ?_ (by simp <;> omega) _))⟩
set_option maxHeartbeats 400000 in
theorem boot_bad (F : Interp) (r : Int) (w : World) (hF : F.answers w.tape) (h : r < 0) :
    Calls Tryf.prog 39 #[.int .i64 r] w (Refuses w) := by
  have hF' := answers_open hF
  go_enter Tryf.func39, Tryf.ntmps39
  go_wp2
  go_ret
  exact ⟨_, _, rfl, (by repeat (first | exact Below.refl _ _ | refine Below.drew ?_ | refine Below.alloc ?_ (by simp <;> omega) _))⟩
set_option maxHeartbeats 400000 in
theorem boot_ok (r : Int) (w : World) (h : 0 ≤ r) :
    Calls Tryf.prog 39 #[.int .i64 r] w (Passes w) := by
  go_enter Tryf.func39, Tryf.ntmps39
  go_wp2
  go_ret
  exact ⟨rfl, (by repeat (first | exact Below.refl _ _ | refine Below.drew ?_ | refine Below.alloc ?_ (by simp <;> omega) _))⟩
set_option maxHeartbeats 400000 in
theorem joins_bad (F : Interp) (n A c : Int) (w : World) (hF : F.answers w.tape) (hn : n ≤ 2147483647) (hA : 1 ≤ A) (hc : c < n) (h : A < c) (h2 : A * (n - c) < c) :
    Calls Tryf.prog 18 #[.agg #[.int .i64 n, .int .i64 A], .int .i64 c] w (Refuses w) := by
  have hF' := answers_open hF
  have hp : A * (n - c) ≥ 0 := Int.mul_nonneg (by omega) (by omega)
  go_enter Tryf.func18, Tryf.ntmps18
  go_wp2
  go_ret
  exact ⟨_, _, rfl, (by repeat (first | exact Below.refl _ _ | refine Below.drew ?_ | refine Below.alloc ?_ (by simp <;> omega) _))⟩
set_option maxHeartbeats 400000 in
theorem joins_ok1 (n A c : Int) (w : World) (h : c ≤ A) :
    Calls Tryf.prog 18 #[.agg #[.int .i64 n, .int .i64 A], .int .i64 c] w (Passes w) := by
  have d : decide (A < c) = false := by simp; omega
  go_enter Tryf.func18, Tryf.ntmps18
  go_wp2
  go_ret
  exact ⟨rfl, (by repeat (first | exact Below.refl _ _ | refine Below.drew ?_ | refine Below.alloc ?_ (by simp <;> omega) _))⟩
set_option maxHeartbeats 400000 in
theorem joins_ok2 (n A c : Int) (w : World) (hn : n ≤ 2147483647) (hA : 1 ≤ A) (hc : c < n) (h : A < c) (h2 : c ≤ A * (n - c)) :
    Calls Tryf.prog 18 #[.agg #[.int .i64 n, .int .i64 A], .int .i64 c] w (Passes w) := by
  have hp : A * (n - c) ≤ 2147483647 * 2147483647 := Int.mul_le_mul (by omega) (by omega) (by omega) (by omega)
  go_enter Tryf.func18, Tryf.ntmps18
  go_wp2
  go_ret
  exact ⟨rfl, (by repeat (first | exact Below.refl _ _ | refine Below.drew ?_ | refine Below.alloc ?_ (by simp <;> omega) _))⟩
end Go.Proofs.Qxb6003965aFmt

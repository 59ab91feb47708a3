/-
  Seat b6003757aF: mul128, le128.
-/
import Derived.Test.Qxb6003757aFmtRows
import Derived.Test.Qxb6003757aFmtPlain
import Derived.WalkKit
import Derived.WalkSpells
import Derived.WalkLawsBesides
namespace Go.Proofs.Qxb6003757aFmt
open Go.RowKit

set_option maxHeartbeats 400000 in
theorem mul_any (a b : Int) (w : World) :
    Calls Tryf.prog 9 #[.int .u64 a, .int .u64 b] w fun e w' => e = .returned (.tuple #[.int .u64 (Plain.mulHi a b), .int .u64 (Plain.mulLo a b)]) ∧ w' = w := by
  go_enter Tryf.func9, Tryf.ntmps9
  go_wp2
  go_ret2
  exact ⟨rfl, rfl⟩

def le128 (h l r : Int) : Bool := decide (h = 0 ∧ l ≤ r)
theorem ret_bool {a b : Bool} (h : a = b) : Ending.returned (.bool a) = .returned (.bool b) := by rw [h]
set_option maxHeartbeats 400000 in
theorem le_any (h l r : Int) (w : World) (hh : 0 ≤ h) :
    Calls Tryf.prog 10 #[.int .u64 h, .int .u64 l, .int .u64 0, .int .u64 r] w fun e w' => e = .returned (.bool (le128 h l r)) ∧ w' = w := by
  have d0 : decide (h < 0) = false := by simp; omega
  by_cases h0 : h = 0
  · subst h0
    have HF : Hid (le128 0 l r = decide (l ≤ r)) := by simp [Hid, le128]
    go_enter Tryf.func10, Tryf.ntmps10
    go_wp2
    go_ret
    exact ⟨ret_bool HF.out.symm, rfl⟩
  · have hb : (h == 0) = false := by simp [h0]
    have HF : Hid (le128 h l r = false) := by simp [Hid, le128, h0]
    clear h0
    go_enter Tryf.func10, Tryf.ntmps10
    go_wp2
    go_ret
    exact ⟨ret_bool HF.out.symm, rfl⟩

theorem quo_laws (r m : Int) (hm : 0 < m) : r / m * m ≤ r ∧ r < (r / m + 1) * m := by
  have h1 := Int.mul_ediv_add_emod r m
  have h2 := Int.emod_nonneg r (by omega : m ≠ 0)
  have h3 := Int.emod_lt_of_pos r hm
  rw [Int.add_mul, Int.one_mul, Int.mul_comm (r / m) m]
  omega
theorem quo_bd (r m : Int) (hr : 0 ≤ r) (hm : 0 < m) : 0 ≤ r / m ∧ r / m ≤ r := by
  exact ⟨Int.ediv_nonneg hr (by omega), Int.ediv_le_self _ hr⟩
/-- x*m at most room: 'le128' says yes. -/
theorem fits_yes (x m r : Int) (hx : 0 ≤ x) (hx' : x ≤ 18446744073709551615) (hm : 0 ≤ m) (hm' : m ≤ 65535) (hr : r ≤ 18446744073709551615) (h : x * m ≤ r) :
    0 ≤ Plain.mulHi x m ∧ le128 (Plain.mulHi x m) (Plain.mulLo x m) r = true := by
  obtain ⟨e1, e2⟩ := Plain.mul_laws x m hx hx' hm (by omega)
  have h0 := Int.mul_nonneg hx hm
  rw [e1, e2]
  refine ⟨by omega, ?_⟩
  unfold le128
  rw [decide_eq_true_iff]
  omega
theorem fits_no (x m r : Int) (hx : 0 ≤ x) (hx' : x ≤ 18446744073709551615) (hm : 0 ≤ m) (hm' : m ≤ 65535) (h : r < x * m) :
    0 ≤ Plain.mulHi x m ∧ le128 (Plain.mulHi x m) (Plain.mulLo x m) r = false := by
  obtain ⟨e1, e2⟩ := Plain.mul_laws x m hx hx' hm (by omega)
  have h0 := Int.mul_nonneg hx hm
  rw [e1, e2]
  refine ⟨by omega, ?_⟩
  unfold le128
  rw [decide_eq_false_iff_not]
  omega
end Go.Proofs.Qxb6003757aFmt

/-
  Seat b6003965aF: the plain mathematics: a product of two 64-bit numbers by 32-bit halves.
-/
import Derived.Laws.BitsAllLaws
import Derived.Laws.Bits64
namespace Go.Proofs.Qxb6003965aFmt.Plain

def lo32 (x : Int) : Int := bits .and .u64 x 4294967295
def U (x : Int) : Int := IntKind.u64.wrap x
def tt (a b : Int) : Int := U (U (a / 4294967296 * lo32 b) + U (lo32 a * lo32 b) / 4294967296)
def mulHi (a b : Int) : Int := U (U (U (a / 4294967296 * (b / 4294967296)) + tt a b / 4294967296) + U (lo32 (tt a b) + U (lo32 a * (b / 4294967296))) / 4294967296)
theorem lo32_eq (x : Int) (h0 : 0 ≤ x) (h1 : x < 18446744073709551616) : lo32 x = x % 4294967296 := by
  unfold lo32
  rw [u64_and x 4294967295 h0 h1 (by omega) (by omega)]
  have e : (4294967295 : Int).toNat = 2 ^ 32 - 1 := by decide
  rw [e, Nat.and_two_pow_sub_one_eq_mod]
  omega
theorem U_eq (x : Int) : U x = x % 18446744073709551616 := IntKind.wrap_u64 x
theorem prod_lt (x y : Int) (hx : 0 ≤ x) (hx' : x ≤ 4294967295) (hy : 0 ≤ y) (hy' : y ≤ 4294967295) : 0 ≤ x * y ∧ x * y ≤ 18446744065119617025 :=
  ⟨Int.mul_nonneg hx hy, by have := Int.mul_le_mul hx' hy' hy (by omega : (0 : Int) ≤ 4294967295); omega⟩
theorem prod_split (a b : Int) : a * b = (a / 4294967296 * (b / 4294967296)) * 18446744073709551616 + (a % 4294967296 * (b / 4294967296)) * 4294967296 + (a / 4294967296 * (b % 4294967296)) * 4294967296 + a % 4294967296 * (b % 4294967296) := by
  have ha : a = a / 4294967296 * 4294967296 + a % 4294967296 := by omega
  have hb : b = b / 4294967296 * 4294967296 + b % 4294967296 := by omega
  generalize a / 4294967296 = p at *
  generalize a % 4294967296 = q at *
  generalize b / 4294967296 = r at *
  generalize b % 4294967296 = s at *
  subst ha hb
  rw [Int.add_mul, Int.mul_add, Int.mul_add]
  have e1 : p * 4294967296 * (r * 4294967296) = p * r * 18446744073709551616 := by
    rw [Int.mul_assoc, ← Int.mul_assoc 4294967296 r, Int.mul_comm 4294967296 r, Int.mul_assoc r, ← Int.mul_assoc]
    rfl
  have e2 : p * 4294967296 * s = p * s * 4294967296 := by rw [Int.mul_assoc, Int.mul_comm 4294967296 s, Int.mul_assoc]
  have e3 : q * (r * 4294967296) = q * r * 4294967296 := by rw [Int.mul_assoc]
  rw [e1, e2, e3]
  omega

theorem mul_laws (a b : Int) (ha : 0 ≤ a) (ha' : a ≤ 18446744073709551615) (hb : 0 ≤ b) (hb' : b ≤ 18446744073709551615) :
    mulHi a b = a * b / 18446744073709551616 := by
  have hs := prod_split a b
  have hbound : a * b ≤ 340282366920938463426481119284349108225 := by
    have := Int.mul_le_mul ha' hb' hb (by omega : (0 : Int) ≤ 18446744073709551615); omega
  have hnn : 0 ≤ a * b := Int.mul_nonneg ha hb
  have b11 := prod_lt (a / 4294967296) (b / 4294967296) (by omega) (by omega) (by omega) (by omega)
  have b01 := prod_lt (a % 4294967296) (b / 4294967296) (by omega) (by omega) (by omega) (by omega)
  have b10 := prod_lt (a / 4294967296) (b % 4294967296) (by omega) (by omega) (by omega) (by omega)
  have b00 := prod_lt (a % 4294967296) (b % 4294967296) (by omega) (by omega) (by omega) (by omega)
  have la := lo32_eq a ha (by omega)
  have lb := lo32_eq b hb (by omega)
  unfold mulHi tt
  rw [la, lb]
  generalize a * b = X at *
  generalize a / 4294967296 * (b / 4294967296) = p11 at *
  generalize a % 4294967296 * (b / 4294967296) = p01 at *
  generalize a / 4294967296 * (b % 4294967296) = p10 at *
  generalize a % 4294967296 * (b % 4294967296) = p00 at *
  clear la lb ha ha' hb hb'
  have u11 : U p11 = p11 := by rw [U_eq]; omega
  have u01 : U p01 = p01 := by rw [U_eq]; omega
  have u10 : U p10 = p10 := by rw [U_eq]; omega
  have u00 : U p00 = p00 := by rw [U_eq]; omega
  rw [u11, u01, u10, u00]
  have ut : U (p10 + p00 / 4294967296) = p10 + p00 / 4294967296 := by rw [U_eq]; omega
  rw [ut, lo32_eq (p10 + p00 / 4294967296) (by omega) (by omega)]
  have um : U ((p10 + p00 / 4294967296) % 4294967296 + p01) = (p10 + p00 / 4294967296) % 4294967296 + p01 := by rw [U_eq]; omega
  rw [um]
  simp only [U_eq]
  omega

/-! ### what 'uint64n' leans on -/
/-- The high word is below n. -/
theorem hi_lt (v n : Int) (hv : 0 ≤ v) (hv' : v ≤ 18446744073709551615) (hn : 1 ≤ n) (hn' : n ≤ 2147483648) : 0 ≤ mulHi v n ∧ mulHi v n < n := by
  rw [mul_laws v n hv hv' (by omega) (by omega)]
  have h1 : v * n ≤ 18446744073709551615 * n := Int.mul_le_mul_of_nonneg_right hv' (by omega)
  have h0 := Int.mul_nonneg hv (by omega : (0 : Int) ≤ n)
  omega
/-- The fallback's low word is not below n. -/
theorem fallback (n : Int) (hn : 1 ≤ n) (hn' : n ≤ 2147483648) : ¬ U (18446744069414584320 * n) < n := by
  have e : 18446744069414584320 * n = (18446744073709551616 - n * 4294967296) + 18446744073709551616 * (n - 1) := by omega
  rw [U_eq, e, Int.add_mul_emod_self_left, Int.emod_eq_of_lt (by omega) (by omega)]
  omega
theorem U_bd (x : Int) : 0 ≤ U x ∧ U x ≤ 18446744073709551615 := by rw [U_eq]; omega
end Go.Proofs.Qxb6003965aFmt.Plain

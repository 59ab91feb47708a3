/-
  Seat b6003757aF: the law's walk.
-/
import Derived.Test.Qxb6003757aFmtBase
import Derived.Test.Qxb6003757aFmtMul
namespace Go.Proofs.Qxb6003757aFmt
open Go.RowKit Go.Extern.Stop Go.Stop Go.Extern

set_option maxHeartbeats 400000 in
theorem law_bad1 (F : Interp) (n a b c : Int) (w : World) (hF : F.answers w.tape) (hn : n < 1 ∨ 65535 < n) :
    Calls Tryf.prog 6 #[.int .i64 n, .int .u64 a, .int .u64 b, .int .u64 c] w fun e w' => e = .returned (.bool true) ∧ Below w.heap.size w w' := by
  have H18 := hidP (base_bad1 F n a b c w hF hn)
  clear hF
  rcases hn with hn | hn
  · have d1 : decide (1 ≤ n) = false := by simp; omega
    go_enter Tryf.func6, Tryf.ntmps6
    go_wp2_with (go_at_call 18; refine H18.out.mono ?_; rintro e w2 ⟨t, v, rfl, hb⟩)
    go_ret
    exact ⟨rfl, hb⟩
  · have d1 : decide (1 ≤ n) = true := by simp; omega
    have d2 : decide (n ≤ 65535) = false := by simp; omega
    go_enter Tryf.func6, Tryf.ntmps6
    go_wp2_with (go_at_call 18; refine H18.out.mono ?_; rintro e w2 ⟨t, v, rfl, hb⟩)
    go_ret
    exact ⟨rfl, hb⟩
set_option maxHeartbeats 400000 in
theorem law_bad2 (F : Interp) (n a b c : Int) (w : World) (hF : F.answers w.tape) (h1 : 1 ≤ n) (h2 : n ≤ 65535) (h : a < b) :
    Calls Tryf.prog 6 #[.int .i64 n, .int .u64 a, .int .u64 b, .int .u64 c] w fun e w' => e = .returned (.bool true) ∧ Below w.heap.size w w' := by
  have H18 := hidP (base_bad2 F n a b c w hF h1 h2 h)
  clear hF
  have d1 : decide (1 ≤ n) = true := by simp; omega
  have d2 : decide (n ≤ 65535) = true := by simp; omega
  have d3 : decide (b ≤ a) = false := by simp; omega
  go_enter Tryf.func6, Tryf.ntmps6
  go_wp2_with (go_at_call 18; refine H18.out.mono ?_; rintro e w2 ⟨t, v, rfl, hb⟩)
  go_ret
  exact ⟨rfl, hb⟩
set_option maxHeartbeats 400000 in
theorem law_one (a b c : Int) (w : World) (h : b ≤ a) :
    Calls Tryf.prog 6 #[.int .i64 1, .int .u64 a, .int .u64 b, .int .u64 c] w fun e w' => e = .returned (.bool true) ∧ Below w.heap.size w w' := by
  have H18 := hidP (base_one a b c w h)
  have d3 : decide (b ≤ a) = true := by simp; omega
  go_enter Tryf.func6, Tryf.ntmps6
  go_wp2_with (go_at_call 18; refine H18.out.mono ?_; rintro e w2 ⟨rfl, rfl⟩)
  go_ret
  exact ⟨by simp, Below.refl _ _⟩
set_option maxHeartbeats 800000 in
theorem law_cap (n a b c : Int) (w : World) (h1 : 2 ≤ n) (h2 : n ≤ 65535) (h : b ≤ a) (hb : 0 ≤ b) (ha : a ≤ 18446744073709551615) (hc : 0 ≤ c) (hc' : c ≤ 18446744073709551615) (hq : c ≤ (a - b) / (n - 1)) :
    Calls Tryf.prog 6 #[.int .i64 n, .int .u64 a, .int .u64 b, .int .u64 c] w fun e w' => e = .returned (.bool true) ∧ Below w.heap.size w w' := by
  have H18 := hidP (base_cap n a b c w h1 h2 h hb ha hq)
  have d1 : decide (1 ≤ n) = true := by simp; omega
  have d2 : decide (n ≤ 65535) = true := by simp; omega
  have d3 : decide (b ≤ a) = true := by simp; omega
  have hn1 : (n == 1) = false := by simp; omega
  have H9 := hidP (mul_any c (n - 1) w)
  obtain ⟨f1, f2⟩ := fits_yes c (n - 1) (a - b) hc hc' (by omega) (by omega) (by omega) (by have := (quo_laws (a - b) (n - 1) (by omega)).1; have h3 := Int.mul_le_mul_of_nonneg_right hq (by omega : (0 : Int) ≤ n - 1); omega)
  generalize Plain.mulHi c (n - 1) = hi at *
  generalize Plain.mulLo c (n - 1) = lo at *
  have H10 := hidP (le_any hi lo (a - b) w f1)
  rw [f2] at H10
  clear hq
  go_enter Tryf.func6, Tryf.ntmps6
  go_wp2_with (first | (go_at_call 18; refine H18.out.mono ?_; rintro e w2 ⟨rfl, rfl⟩) | (go_at_call 9; refine H9.out.mono ?_; rintro e w2 ⟨rfl, rfl⟩) | (go_at_call 10; refine H10.out.mono ?_; rintro e w2 ⟨rfl, rfl⟩))
  go_ret
  exact ⟨rfl, Below.refl _ _⟩
set_option maxHeartbeats 800000 in
theorem law_quo (n a b c q : Int) (w : World) (h1 : 2 ≤ n) (h2 : n ≤ 65535) (h : b ≤ a) (hb : 0 ≤ b) (ha : a ≤ 18446744073709551615) (hc' : c ≤ 18446744073709551615) (hqe : (a - b) / (n - 1) = q) (hq : q < c) :
    Calls Tryf.prog 6 #[.int .i64 n, .int .u64 a, .int .u64 b, .int .u64 c] w fun e w' => e = .returned (.bool true) ∧ Below w.heap.size w w' := by
  have H18 := hidP (base_quo n a b c w h1 h2 h hb ha (by omega))
  have d1 : decide (1 ≤ n) = true := by simp; omega
  have d2 : decide (n ≤ 65535) = true := by simp; omega
  have d3 : decide (b ≤ a) = true := by simp; omega
  have hn1 : (n == 1) = false := by simp; omega
  have hqc : (q == c) = false := by simp; omega
  obtain ⟨g1, g2⟩ := quo_laws (a - b) (n - 1) (by omega)
  obtain ⟨g3, g4⟩ := quo_bd (a - b) (n - 1) (by omega) (by omega)
  rw [hqe] at H18 g1 g2 g3 g4
  clear hqe
  have H9 := hidP (mul_any q (n - 1) w)
  have H9b := hidP (mul_any (q + 1) (n - 1) w)
  obtain ⟨f1, f2⟩ := fits_yes q (n - 1) (a - b) g3 (by omega) (by omega) (by omega) (by omega) g1
  obtain ⟨f3, f4⟩ := fits_no (q + 1) (n - 1) (a - b) (by omega) (by omega) (by omega) (by omega) g2
  clear g1 g2
  generalize Plain.mulHi q (n - 1) = hi at *
  generalize Plain.mulLo q (n - 1) = lo at *
  generalize Plain.mulHi (q + 1) (n - 1) = hi2 at *
  generalize Plain.mulLo (q + 1) (n - 1) = lo2 at *
  have H10 := hidP (le_any hi lo (a - b) w f1)
  rw [f2] at H10
  have H10b := hidP (le_any hi2 lo2 (a - b) w f3)
  rw [f4] at H10b
  go_enter Tryf.func6, Tryf.ntmps6
  go_wp2_with (go_at_call 18; refine H18.out.mono ?_; rintro e w2 ⟨rfl, hw2⟩; obtain rfl : w = w2 := hw2.symm)
  refine H9.out.mono ?_
  rintro e w2 ⟨rfl, hw2⟩
  obtain rfl : w = w2 := hw2.symm
  go_wp2_with (go_at_call 10; refine H10.out.mono ?_; rintro e w2 ⟨rfl, hw2⟩; obtain rfl : w = w2 := hw2.symm)
  refine H9b.out.mono ?_
  rintro e w2 ⟨rfl, hw2⟩
  obtain rfl : w = w2 := hw2.symm
  go_wp2_with (go_at_call 10; refine H10b.out.mono ?_; rintro e w2 ⟨rfl, hw2⟩; obtain rfl : w = w2 := hw2.symm)
  go_ret
  exact ⟨rfl, Below.refl _ _⟩

theorem bounds64 {a : Int} (h : (Lit.int .u64 a).wf = true) : 0 ≤ a ∧ a ≤ 18446744073709551615 := by
  simp only [Lit.wf, Bool.and_eq_true, decide_eq_true_eq] at h
  have e1 : IntKind.u64.min = 0 := by decide
  have e2 : IntKind.u64.max = 18446744073709551615 := by decide
  omega
theorem law_all (F : Interp) (n a b c : Int) (w : World) (hF : F.answers w.tape) (wb : (Lit.int .u64 b).wf = true) (wa : (Lit.int .u64 a).wf = true) (wc : (Lit.int .u64 c).wf = true) :
    Calls Tryf.prog 6 #[.int .i64 n, .int .u64 a, .int .u64 b, .int .u64 c] w fun e w' => e = .returned (.bool true) ∧ Below w.heap.size w w' := by
  have ha := bounds64 wa
  have hb := bounds64 wb
  have hc := bounds64 wc
  by_cases h1 : 1 ≤ n ∧ n ≤ 65535
  · by_cases h2 : b ≤ a
    · by_cases h3 : n = 1
      · subst h3; exact law_one a b c w h2
      · by_cases h4 : c ≤ (a - b) / (n - 1)
        · exact law_cap n a b c w (by omega) h1.2 h2 hb.1 ha.2 hc.1 hc.2 h4
        · exact law_quo n a b c _ w (by omega) h1.2 h2 hb.1 ha.2 hc.2 rfl (by omega)
    · exact law_bad2 F n a b c w hF h1.1 h1.2 (by omega)
  · exact law_bad1 F n a b c w hF (by omega)
end Go.Proofs.Qxb6003757aFmt

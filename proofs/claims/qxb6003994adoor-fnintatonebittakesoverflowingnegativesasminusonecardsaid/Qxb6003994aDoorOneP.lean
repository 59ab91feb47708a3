/-
  Seat b6003994aD: the plain law at one bit; the law's walk.
-/
import Derived.Test.Qxb6003994aDoorOne
namespace Go.Proofs.Qxb6003994aDoor
open Go.RowKit

theorem ne_of_nat {c d : UInt8} (h : c.toNat ≠ d.toNat) : c ≠ d := fun e => h (by rw [e])

theorem dint_err (b : Nat) (l : List UInt8) (h : (pint b l).2 ≠ 0) : dint b l = (0, false) := by unfold dint; rw [if_pos h]
theorem dint_np (b : Nat) (l : List UInt8) (h : plainB (cutl l) = false) : dint b l = (0, false) := by
  unfold dint
  rw [h]
  split <;> rfl
theorem dint_ok (b : Nat) (l : List UInt8) (v : Int) (h : pint b l = (v, 0)) (hp : plainB (cutl l) = true) (hn : negl l = true → v ≠ 0) : dint b l = (v, true) := by
  unfold dint
  rw [h, hp, if_neg (by simp), if_neg (by simp), if_neg (fun h => hn h.1 h.2)]
theorem dint_nz (b : Nat) (l : List UInt8) (h : pint b l = (0, 0)) (hn : negl l = true) : dint b l = (0, false) := by
  unfold dint
  rw [h, if_neg (by simp)]
  split
  · rfl
  · rw [if_pos ⟨hn, rfl⟩]

theorem pu_nodig (M n : Nat) (c : UInt8) (cs : List UInt8) (h : ¬ (48 ≤ c.toNat ∧ c.toNat ≤ 57)) : pu M n (c :: cs) = (0, 2) := by simp only [pu]; rw [if_pos h]
theorem pu_over (M n : Nat) (c : UInt8) (cs : List UInt8) (h : 48 ≤ c.toNat ∧ c.toNat ≤ 57) (ho : M < n * 10 + (c.toNat - 48)) : pu M n (c :: cs) = (M, 1) := by simp only [pu]; rw [if_neg (fun g => g h), if_pos ho]
theorem pu_next (M n : Nat) (c : UInt8) (cs : List UInt8) (h : 48 ≤ c.toNat ∧ c.toNat ≤ 57) (ho : ¬ M < n * 10 + (c.toNat - 48)) : pu M n (c :: cs) = pu M (n * 10 + (c.toNat - 48)) cs := by simp only [pu]; rw [if_neg (fun g => g h), if_neg ho]
theorem pui_cons (M : Nat) (c : UInt8) (cs : List UInt8) : pui M (c :: cs) = pu M 0 (c :: cs) := by simp [pui]

theorem pint_minus1 (cs : List UInt8) : pint 1 (45 :: cs) = tail 1 true (pui 1 cs) := by simp [pint]
theorem pint_other1 (c : UInt8) (cs : List UInt8) (h43 : c ≠ 43) (h45 : c ≠ 45) : pint 1 (c :: cs) = tail 1 false (pui 1 (c :: cs)) := by simp [pint, h43, h45]

theorem mone_minus (d : UInt8) (r : List UInt8) : mone (45 :: d :: r) = if 50 ≤ d.toNat ∧ d.toNat ≤ 57 then (-1, true) else if d.toNat ≠ 49 then (0, false) else match r with | [] => (-1, true) | x :: _ => if 48 ≤ x.toNat ∧ x.toNat ≤ 57 then (-1, true) else (0, false) := by
  cases r <;> simp [mone]
theorem mone_other (c d : UInt8) (r : List UInt8) (h : c.toNat ≠ 45) : mone (c :: d :: r) = (0, false) := by
  cases r <;> simp [mone, h]

theorem law_one (l : List UInt8) : dint 1 l = mone l := by
  cases l with
  | nil => rw [dint_err 1 [] (by simp [pint])]; rfl
  | cons c cs =>
    by_cases h45 : c = 45
    · subst h45
      cases cs with
      | nil => rw [dint_np 1 [45] (by rw [cutl_minus]; rfl)]; simp [mone]
      | cons d r =>
        rw [mone_minus]
        have hc := cutl_minus (d :: r)
        have hn := negl_minus (d :: r)
        have hp := pint_minus1 (d :: r)
        rw [pui_cons] at hp
        by_cases hdig : 48 ≤ d.toNat ∧ d.toNat ≤ 57
        · have h43 : d ≠ 43 := ne_of_nat (by show d.toNat ≠ 43; omega)
          by_cases h48 : d.toNat = 48
          · rw [if_neg (by omega), if_pos (by omega)]
            cases r with
            | nil =>
              rw [pu_next 1 0 d [] hdig (by omega), h48] at hp
              exact dint_nz 1 _ (by rw [hp]; rfl) hn
            | cons x r =>
              have e48 : d = 48 := UInt8.toNat_inj.1 h48
              exact dint_np 1 _ (by rw [hc, e48]; rfl)
          · have n48 : d ≠ 48 := ne_of_nat h48
            have hpl : plainB (cutl (45 :: d :: r)) = true := by rw [hc]; simp [plainB, h43, n48]
            by_cases h49 : d.toNat = 49
            · rw [if_neg (by omega), if_neg (by omega)]
              rw [pu_next 1 0 d r hdig (by omega), h49] at hp
              cases r with
              | nil => exact dint_ok 1 _ (-1) (by rw [hp]; rfl) hpl (by simp)
              | cons x r =>
                by_cases hx : 48 ≤ x.toNat ∧ x.toNat ≤ 57
                · show _ = if _ then _ else _
                  rw [if_pos hx]
                  rw [pu_over 1 _ x r hx (by omega)] at hp
                  exact dint_ok 1 _ (-1) (by rw [hp]; rfl) hpl (by simp)
                · show _ = if _ then _ else _
                  rw [if_neg hx]
                  rw [pu_nodig 1 _ x r hx] at hp
                  exact dint_err 1 _ (by rw [hp]; simp [tail])
            · rw [if_pos (by omega)]
              rw [pu_over 1 0 d r hdig (by omega)] at hp
              exact dint_ok 1 _ (-1) (by rw [hp]; rfl) hpl (by simp)
        · rw [if_neg (by omega), if_pos (by omega)]
          rw [pu_nodig 1 0 d r hdig] at hp
          exact dint_err 1 _ (by rw [hp]; simp [tail])
    · have n45 : c.toNat ≠ 45 := fun h => h45 (UInt8.toNat_inj.1 h)
      have hc := cutl_other c cs h45
      have hn := negl_other c cs h45
      have hm : mone (c :: cs) = if c.toNat = 48 ∧ cs = [] then (0, true) else (0, false) := by
        cases cs with
        | nil => simp [mone]
        | cons d r => rw [mone_other c d r n45]; simp
      rw [hm]
      by_cases h43 : c = 43
      · subst h43
        rw [if_neg (by simp)]
        exact dint_np 1 _ (by rw [hc]; rfl)
      · have hp := pint_other1 c cs h43 h45
        rw [pui_cons] at hp
        by_cases hdig : 48 ≤ c.toNat ∧ c.toNat ≤ 57
        · by_cases h48 : c.toNat = 48
          · have e48 : c = 48 := UInt8.toNat_inj.1 h48
            cases cs with
            | nil =>
              rw [if_pos ⟨h48, rfl⟩]
              rw [pu_next 1 0 c [] hdig (by omega), h48] at hp
              exact dint_ok 1 _ 0 (by rw [hp]; rfl) (by rw [hc, e48]; rfl) (by rw [hn]; simp)
            | cons d r =>
              rw [if_neg (by simp)]
              exact dint_np 1 _ (by rw [hc, e48]; rfl)
          · rw [if_neg (by omega)]
            by_cases h49 : c.toNat = 49
            · rw [pu_next 1 0 c cs hdig (by omega), h49] at hp
              cases cs with
              | nil => exact dint_err 1 _ (by rw [hp]; decide)
              | cons x r =>
                by_cases hx : 48 ≤ x.toNat ∧ x.toNat ≤ 57
                · rw [pu_over 1 _ x r hx (by omega)] at hp
                  exact dint_err 1 _ (by rw [hp]; decide)
                · rw [pu_nodig 1 _ x r hx] at hp
                  exact dint_err 1 _ (by rw [hp]; decide)
            · rw [pu_over 1 0 c cs hdig (by omega)] at hp
              exact dint_err 1 _ (by rw [hp]; decide)
        · rw [if_neg (by omega)]
          rw [pu_nodig 1 0 c cs hdig] at hp
          exact dint_err 1 _ (by rw [hp]; decide)
end Go.Proofs.Qxb6003994aDoor

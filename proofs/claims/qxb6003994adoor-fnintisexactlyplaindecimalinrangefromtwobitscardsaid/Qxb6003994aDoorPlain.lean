/-
  Seat b6003994aD: the plain law from two bits on.
-/
import Derived.Test.Qxb6003994aDoorModel
namespace Go.Proofs.Qxb6003994aDoor
open Go.RowKit

theorem pu_one (M : Nat) : ∀ (l : List UInt8) (n : Nat), (pu M n l).2 = 1 → (pu M n l).1 = M
  | [], n, h => by simp [pu] at h
  | c :: cs, n, h => by
    simp only [pu] at h ⊢
    split
    · rename_i hd; rw [if_pos hd] at h; simp at h
    · rename_i hd
      rw [if_neg hd] at h
      split
      · rfl
      · rename_i ho; rw [if_neg ho] at h; exact pu_one M cs _ h
theorem pu_grow (M : Nat) : ∀ (l : List UInt8) (n : Nat), (pu M n l).2 = 0 → n ≤ (pu M n l).1
  | [], n, _ => Nat.le_refl _
  | c :: cs, n, h => by
    simp only [pu] at h ⊢
    split
    · rename_i hd; rw [if_pos hd] at h; simp at h
    · rename_i hd
      rw [if_neg hd] at h
      split
      · rename_i ho; rw [if_pos ho] at h; simp at h
      · rename_i ho; rw [if_neg ho] at h; have := pu_grow M cs _ h; omega
theorem pu_up (M N : Nat) (hMN : M ≤ N) : ∀ (l : List UInt8) (n : Nat), (pu M n l).2 = 0 → pu N n l = pu M n l
  | [], n, _ => rfl
  | c :: cs, n, h => by
    simp only [pu] at h ⊢
    by_cases hd : ¬ (48 ≤ c.toNat ∧ c.toNat ≤ 57)
    · rw [if_pos hd] at h; simp at h
    · rw [if_neg hd] at h
      rw [if_neg hd, if_neg hd]
      by_cases ho : M < n * 10 + (c.toNat - 48)
      · rw [if_pos ho] at h; simp at h
      · rw [if_neg ho] at h
        rw [if_neg ho, if_neg (by omega)]
        exact pu_up M N hMN cs _ h
theorem pu_down (M N : Nat) : ∀ (l : List UInt8) (n : Nat), (pu N n l).2 = 0 → (pu N n l).1 ≤ M → pu M n l = pu N n l
  | [], n, _, _ => rfl
  | c :: cs, n, h, hm => by
    simp only [pu] at h hm ⊢
    by_cases hd : ¬ (48 ≤ c.toNat ∧ c.toNat ≤ 57)
    · rw [if_pos hd] at h; simp at h
    · rw [if_neg hd] at h hm
      rw [if_neg hd, if_neg hd]
      by_cases ho : N < n * 10 + (c.toNat - 48)
      · rw [if_pos ho] at h; simp at h
      · rw [if_neg ho] at h hm
        have hg := pu_grow N cs _ h
        rw [if_neg ho, if_neg (by omega)]
        exact pu_down M N cs _ h hm
theorem pu_two (M N : Nat) : ∀ (l : List UInt8) (n : Nat), (pu M n l).2 = 2 → (pu N n l).2 ≠ 0
  | [], n, h => by simp [pu] at h
  | c :: cs, n, h => by
    simp only [pu] at h ⊢
    by_cases hd : ¬ (48 ≤ c.toNat ∧ c.toNat ≤ 57)
    · rw [if_pos hd]; simp
    · rw [if_neg hd] at h
      rw [if_neg hd]
      by_cases ho : M < n * 10 + (c.toNat - 48)
      · rw [if_pos ho] at h; simp at h
      · rw [if_neg ho] at h
        by_cases ho2 : N < n * 10 + (c.toNat - 48)
        · rw [if_pos ho2]; simp
        · rw [if_neg ho2]; exact pu_two M N cs _ h

theorem pow_facts (b : Nat) (h2 : 2 ≤ b) (h64 : b ≤ 64) : 2 ≤ 2 ^ (b - 1) ∧ 2 ^ b - 1 = 2 * 2 ^ (b - 1) - 1 ∧ 2 ^ b - 1 ≤ MX := by
  have e : 2 ^ b = 2 * 2 ^ (b - 1) := by rw [← Nat.pow_succ', show (b - 1).succ = b by omega]
  have h : 2 ^ 1 ≤ 2 ^ (b - 1) := Nat.pow_le_pow_right (by omega) (by omega)
  have h' : 2 ^ b ≤ 2 ^ 64 := Nat.pow_le_pow_right (by omega) h64
  have h3 : (2 : Nat) ^ 64 = 18446744073709551616 := by decide
  have hx : MX = 18446744073709551615 := rfl
  exact ⟨by omega, by omega, by omega⟩

/-- Where the digits are plain: what the two readings have in common. -/
theorem both (b : Nat) (h2 : 2 ≤ b) (h64 : b ≤ 64) (c : UInt8) (r : List UInt8) (hp : plainB (c :: r) = true) :
    (pui (2 ^ b - 1) (c :: r)).2 = 0 ∧ canon (c :: r) = ((pui (2 ^ b - 1) (c :: r)).1, true)
    ∨ (pui (2 ^ b - 1) (c :: r)).2 ≠ 0 ∧ ((pui (2 ^ b - 1) (c :: r)).2 = 2 ∨ (pui (2 ^ b - 1) (c :: r)).1 = 2 ^ b - 1) ∧ (canon (c :: r) = (0, false) ∨ ∃ v, canon (c :: r) = (v, true) ∧ 2 ^ b - 1 < v) := by
  obtain ⟨f1, f2, f3⟩ := pow_facts b h2 h64
  have hu : pui (2 ^ b - 1) (c :: r) = pu (2 ^ b - 1) 0 (c :: r) := by simp [pui]
  have h48 : ¬ (c = 48 ∧ r ≠ []) := by
    rintro ⟨rfl, hr⟩
    cases r with
    | nil => exact hr rfl
    | cons => simp [plainB] at hp
  have hc : canon (c :: r) = if (pu MX 0 (c :: r)).2 = 0 then ((pu MX 0 (c :: r)).1, true) else (0, false) := by simp only [canon]; rw [if_neg h48]
  rw [hu, hc]
  rcases (pu_le (2 ^ b - 1) (c :: r) 0 (by omega)).2 with h | h | h
  · left
    rw [pu_up _ MX f3 (c :: r) 0 h, if_pos h]
    exact ⟨h, rfl⟩
  · right
    refine ⟨by omega, .inr (pu_one _ _ _ h), ?_⟩
    by_cases hx : (pu MX 0 (c :: r)).2 = 0
    · right
      rw [if_pos hx]
      refine ⟨_, rfl, ?_⟩
      by_cases hle : (pu MX 0 (c :: r)).1 ≤ 2 ^ b - 1
      · have := pu_down (2 ^ b - 1) MX (c :: r) 0 hx hle
        rw [this] at h
        omega
      · omega
    · left; rw [if_neg hx]
  · right
    refine ⟨by omega, .inl h, ?_⟩
    left
    rw [if_neg (pu_two _ MX _ _ h)]

theorem canon_not_plain (l : List UInt8) (hp : plainB l = false) : canon l = (0, false) := by
  cases l with
  | nil => rfl
  | cons c r =>
    simp only [canon]
    by_cases h48 : c = 48 ∧ r ≠ []
    · rw [if_pos h48]
    · rw [if_neg h48]
      have h43 : c = 43 := by
        apply Classical.byContradiction
        intro h43
        by_cases h : c = 48
        · have hr : r = [] := Classical.byContradiction fun hr => h48 ⟨h, hr⟩
          subst hr
          simp [plainB, h] at hp
        · simp [plainB, h, h43] at hp
      subst h43
      have : (pu MX 0 (43 :: r)).2 = 2 := by simp [pu]
      rw [if_neg (by omega)]

theorem law_two (b : Nat) (h2 : 2 ≤ b) (h64 : b ≤ 64) (l : List UInt8) : dint b l = mint b l := by
  obtain ⟨f1, f2, f3⟩ := pow_facts b h2 h64
  cases hp : plainB (cutl l) with
  | false =>
    have e1 : dint b l = (0, false) := by
      unfold dint
      rw [hp]
      split <;> rfl
    have e2 : mint b l = (0, false) := by
      unfold mint
      rw [canon_not_plain _ hp, if_pos rfl]
    rw [e1, e2]
  | true =>
    have e0 : dint b l = if (pint b l).2 ≠ 0 then (0, false) else if negl l = true ∧ (pint b l).1 = 0 then (0, false) else ((pint b l).1, true) := by
      unfold dint
      rw [if_neg (show ¬ plainB (cutl l) = false by rw [hp]; decide)]
    rw [e0]
    clear e0
    cases l with
    | nil => simp [cutl, Lib.trimPrefix, Lib.hasPrefix, plainB] at hp
    | cons c0 cs =>
      by_cases h45 : c0 = 45
      · subst h45
        rw [cutl_minus] at hp
        have hpi : pint b (45 :: cs) = tail b true (pui (2 ^ b - 1) cs) := by simp [pint]
        simp only [mint, cutl_minus, negl_minus, hpi]
        cases cs with
        | nil => simp [plainB] at hp
        | cons c r =>
          rcases both b h2 h64 c r hp with ⟨hz, hc⟩ | ⟨hz, h1, hc⟩
          · rw [hc]
            generalize pui (2 ^ b - 1) (c :: r) = p at *
            obtain ⟨v, k⟩ := p
            have hz : k = 0 := hz
            subst hz
            by_cases ho : 2 ^ (b - 1) < v
            · rw [tail_to b v 0 (by decide) ho]
              simp [ho]
            · rw [tail_ti b v 0 (by decide) ho]
              by_cases hv : v = 0
              · simp [hv]
              · simp [hv, ho]
          · have ht : (tail b true (pui (2 ^ b - 1) (c :: r))).2 ≠ 0 := by
              rcases h1 with h1 | h1
              · rw [show pui (2 ^ b - 1) (c :: r) = ((pui (2 ^ b - 1) (c :: r)).1, 2) from Prod.ext rfl h1, tail_2]
                simp
              · rw [tail]
                split
                · simp
                · rw [if_pos rfl, h1, if_pos (by omega)]
                  simp
            rw [if_pos ht]
            rcases hc with hc | ⟨v, hc, hv⟩
            · rw [hc]; simp
            · rw [hc]
              have : 2 ^ (b - 1) < v := by omega
              simp [this]
      · rw [cutl_other _ _ h45] at hp
        have h43 : c0 ≠ 43 := by rintro rfl; simp [plainB] at hp
        have hpi : pint b (c0 :: cs) = tail b false (pui (2 ^ b - 1) (c0 :: cs)) := by simp [pint, h43, h45]
        simp only [mint, cutl_other _ _ h45, negl_other _ _ h45, hpi]
        rcases both b h2 h64 c0 cs hp with ⟨hz, hc⟩ | ⟨hz, h1, hc⟩
        · rw [hc]
          generalize pui (2 ^ b - 1) (c0 :: cs) = p at *
          obtain ⟨v, k⟩ := p
          have hz : k = 0 := hz
          subst hz
          by_cases ho : 2 ^ (b - 1) ≤ v
          · rw [tail_fo b v 0 (by decide) ho]
            simp [ho]
          · rw [tail_fi b v 0 (by decide) ho]
            simp [ho]
        · have ht : (tail b false (pui (2 ^ b - 1) (c0 :: cs))).2 ≠ 0 := by
            rcases h1 with h1 | h1
            · rw [show pui (2 ^ b - 1) (c0 :: cs) = ((pui (2 ^ b - 1) (c0 :: cs)).1, 2) from Prod.ext rfl h1, tail_2]
              simp
            · rw [tail]
              split
              · simp
              · rw [if_neg (by decide), h1, if_pos (by omega)]
                simp
          rw [if_pos ht]
          rcases hc with hc | ⟨v, hc, hv⟩
          · rw [hc]; simp
          · rw [hc]
            have : 2 ^ (b - 1) ≤ v := by omega
            simp [this]
end Go.Proofs.Qxb6003994aDoor

/-
  Seat b6003994aD: zzCanonMag.
-/
import Derived.Test.Qxb6003994aDoorDInt
namespace Go.Proofs.Qxb6003994aDoor
open Go.RowKit

def MX : Nat := 18446744073709551615
/-- zzCanonMag's answer. -/
def canon : List UInt8 → Nat × Bool
  | [] => (0, false)
  | c :: r => if c = 48 ∧ r ≠ [] then (0, false) else if (pu MX 0 (c :: r)).2 = 0 then ((pu MX 0 (c :: r)).1, true) else (0, false)
def CaPost (l : List UInt8) (w : World) (e : Ending) (w' : World) : Prop := e = .returned (.tuple #[.int .u64 ((canon l).1 : Int), .bool (canon l).2]) ∧ w' = w

set_option maxHeartbeats 32000000 in
set_option maxRecDepth 100000 in
theorem canon_loop (s : ByteArray) (c0 : UInt8) (r : List UInt8) (hL : s.data.toList = c0 :: r) (hmax : s.size ≤ 1048576) (h48 : ¬ (c0 = 48 ∧ r ≠ [])) (w : World) :
    Calls Tryd.prog 18 #[.string s] w (CaPost (c0 :: r) w) := by
  have hres : canon (c0 :: r) = if (pu MX 0 (c0 :: r)).2 = 0 then ((pu MX 0 (c0 :: r)).1, true) else (0, false) := by simp only [canon]; rw [if_neg h48]
  have hsz : s.size = r.length + 1 := by rw [Lib.size_eq, hL]; rfl
  have hpos : 0 < s.size := by omega
  have hs0 : s[0]'hpos = c0 := by have := Lib.getD_at s 0 hpos; rw [hL] at this; exact this
  have hB : ∀ k (hk : k < s.size), s[k]'hk = (c0 :: r).getD k 0 := fun k hk => by rw [Lib.getD_at s k hk, hL]
  have hn : (s.size : Int) ≤ 1048576 := by omega
  obtain ⟨bs, hbs⟩ : ∃ bs, bs = c0 :: r := ⟨_, rfl⟩
  have hLn : bs.length = s.size := by rw [hbs, hsz]; rfl
  have HR := hidP hres
  obtain ⟨M, hM⟩ : ∃ M, M = MX := ⟨_, rfl⟩
  rw [← hM, ← hbs] at HR
  have HM : Hid (M = 18446744073709551615) := hM
  rw [← hbs] at hB ⊢
  have hz : Hid (bs = c0 :: r) := hbs
  clear hres hL hM hbs
  have h48' : ¬ ((c0.toNat : Int) = 48 ∧ 1 < (s.size : Int)) := by
    rintro ⟨h1, h2⟩
    exact h48 ⟨(b48 c0).2 h1, fun e => by rw [e] at hsz; simp at hsz; omega⟩
  clear h48 hsz
  by_cases h0 : (c0.toNat : Int) = 48
  · have h1 : ¬ 1 < (s.size : Int) := fun h => h48' ⟨h0, h⟩
    clear h48'
    go_enter Tryd.func18, Tryd.ntmps18
    go_wp2
    clear hs0 hpos h0 h1
    go_loop [4, 5] (fun vn vi => ∃ (k acc : Nat) (a : Int), vn = .int .u64 a ∧ vi = .int .i64 k ∧ k ≤ s.size ∧ Hid (a = (acc : Int) ∧ acc ≤ M ∧ pu M 0 bs = pu M acc (bs.drop k)))
      (fun _ vi => s.size - (intOf vi).toNat)
    case atStart => exact ⟨0, 0, 0, rfl, rfl, by omega, rfl, by omega, rfl⟩
    case round =>
      obtain ⟨k, acc, a, rfl, rfl, hk, hh⟩ := hrel
      obtain ⟨ha, hacc, hdec⟩ := hh.out
      clear hh
      have hM := HM.out
      have a0 : 0 ≤ a := by omega
      have a1 : a < 18446744073709551616 := by omega
      by_cases hkn : k < s.size
      · have hc := hB k hkn
        have hdrop : bs.drop k = bs[k]'(by omega) :: bs.drop (k + 1) := List.drop_eq_getElem_cons (by omega)
        have hget : bs.getD k 0 = bs[k]'(by omega) := by simp [List.getD, List.getElem?_eq_getElem (show k < bs.length by omega)]
        rw [hdrop] at hdec
        rw [hget] at hc
        generalize bs[k]'(by omega) = c at hc hdec
        have hc256 : c.toNat < 256 := c.toNat_lt
        clear hB hdrop hget
        by_cases hdig : 48 ≤ c.toNat ∧ c.toNat ≤ 57
        · by_cases hov : M < acc * 10 + (c.toNat - 48)
          · have hF : pu M acc (c :: bs.drop (k + 1)) = (M, 1) := by simp only [pu]; rw [if_neg (by simpa using hdig), if_pos hov]
            rw [hF] at hdec
            have R : Hid (CaPost bs w (.returned (.tuple #[.int .u64 0, .bool false])) w) := ⟨by rw [HR.out, hdec]; rfl, rfl⟩
            obtain ⟨hd0, hd1⟩ := hdig
            have iov : 18446744073709551615 < a * 10 + ((c.toNat : Int) - 48) := by omega
            clear hacc hF hov ha hdec hM
            go_wp2
            go_ret2
            exact R.out
          · have hF : pu M acc (c :: bs.drop (k + 1)) = pu M (acc * 10 + (c.toNat - 48)) (bs.drop (k + 1)) := by simp only [pu]; rw [if_neg (by simpa using hdig), if_neg hov]
            obtain ⟨hd0, hd1⟩ := hdig
            have HN : Hid (a * 10 + ((c.toNat : Int) - 48) = ((acc * 10 + (c.toNat - 48) : Nat) : Int) ∧ acc * 10 + (c.toNat - 48) ≤ M ∧ pu M 0 bs = pu M (acc * 10 + (c.toNat - 48)) (bs.drop (k + 1))) := ⟨by omega, by omega, hdec.trans hF⟩
            have iov : a * 10 + ((c.toNat : Int) - 48) ≤ 18446744073709551615 := by omega
            clear hacc hF hov hdec ha hM
            go_wp2
            refine ⟨⟨k + 1, acc * 10 + (c.toNat - 48), a * 10 + ((c.toNat : Int) - 48), rfl, (by first | rfl | (congr 1; omega)), by omega, HN⟩, by simp [intOf]; omega⟩
        · have hF : pu M acc (c :: bs.drop (k + 1)) = (0, 2) := by simp only [pu]; rw [if_pos hdig]
          rw [hF] at hdec
          have R : Hid (CaPost bs w (.returned (.tuple #[.int .u64 0, .bool false])) w) := ⟨by rw [HR.out, hdec]; rfl, rfl⟩
          clear hacc hF ha hdec hM
          have hdig' : ¬ (48 ≤ (c.toNat : Int) ∧ (c.toNat : Int) ≤ 57) := by omega
          clear hdig
          go_wp2
          all_goals go_ret2
          all_goals exact R.out
      · have hkk : k = s.size := by omega
        subst hkk
        have hF : pu M acc (bs.drop s.size) = (acc, 0) := by rw [List.drop_eq_nil_of_le (by omega)]; rfl
        rw [hF] at hdec
        have R : Hid (CaPost bs w (.returned (.tuple #[.int .u64 a, .bool true])) w) := ⟨by rw [HR.out, hdec, ha]; rfl, rfl⟩
        clear hacc hF a0 a1 hdec ha hM
        go_wp2
        go_ret2
        exact R.out
  · clear h48'
    go_enter Tryd.func18, Tryd.ntmps18
    go_wp2
    clear hs0 hpos h0
    go_loop [4, 5] (fun vn vi => ∃ (k acc : Nat) (a : Int), vn = .int .u64 a ∧ vi = .int .i64 k ∧ k ≤ s.size ∧ Hid (a = (acc : Int) ∧ acc ≤ M ∧ pu M 0 bs = pu M acc (bs.drop k)))
      (fun _ vi => s.size - (intOf vi).toNat)
    case atStart => exact ⟨0, 0, 0, rfl, rfl, by omega, rfl, by omega, rfl⟩
    case round =>
      obtain ⟨k, acc, a, rfl, rfl, hk, hh⟩ := hrel
      obtain ⟨ha, hacc, hdec⟩ := hh.out
      clear hh
      have hM := HM.out
      have a0 : 0 ≤ a := by omega
      have a1 : a < 18446744073709551616 := by omega
      by_cases hkn : k < s.size
      · have hc := hB k hkn
        have hdrop : bs.drop k = bs[k]'(by omega) :: bs.drop (k + 1) := List.drop_eq_getElem_cons (by omega)
        have hget : bs.getD k 0 = bs[k]'(by omega) := by simp [List.getD, List.getElem?_eq_getElem (show k < bs.length by omega)]
        rw [hdrop] at hdec
        rw [hget] at hc
        generalize bs[k]'(by omega) = c at hc hdec
        have hc256 : c.toNat < 256 := c.toNat_lt
        clear hB hdrop hget
        by_cases hdig : 48 ≤ c.toNat ∧ c.toNat ≤ 57
        · by_cases hov : M < acc * 10 + (c.toNat - 48)
          · have hF : pu M acc (c :: bs.drop (k + 1)) = (M, 1) := by simp only [pu]; rw [if_neg (by simpa using hdig), if_pos hov]
            rw [hF] at hdec
            have R : Hid (CaPost bs w (.returned (.tuple #[.int .u64 0, .bool false])) w) := ⟨by rw [HR.out, hdec]; rfl, rfl⟩
            obtain ⟨hd0, hd1⟩ := hdig
            have iov : 18446744073709551615 < a * 10 + ((c.toNat : Int) - 48) := by omega
            clear hacc hF hov ha hdec hM
            go_wp2
            go_ret2
            exact R.out
          · have hF : pu M acc (c :: bs.drop (k + 1)) = pu M (acc * 10 + (c.toNat - 48)) (bs.drop (k + 1)) := by simp only [pu]; rw [if_neg (by simpa using hdig), if_neg hov]
            obtain ⟨hd0, hd1⟩ := hdig
            have HN : Hid (a * 10 + ((c.toNat : Int) - 48) = ((acc * 10 + (c.toNat - 48) : Nat) : Int) ∧ acc * 10 + (c.toNat - 48) ≤ M ∧ pu M 0 bs = pu M (acc * 10 + (c.toNat - 48)) (bs.drop (k + 1))) := ⟨by omega, by omega, hdec.trans hF⟩
            have iov : a * 10 + ((c.toNat : Int) - 48) ≤ 18446744073709551615 := by omega
            clear hacc hF hov hdec ha hM
            go_wp2
            refine ⟨⟨k + 1, acc * 10 + (c.toNat - 48), a * 10 + ((c.toNat : Int) - 48), rfl, (by first | rfl | (congr 1; omega)), by omega, HN⟩, by simp [intOf]; omega⟩
        · have hF : pu M acc (c :: bs.drop (k + 1)) = (0, 2) := by simp only [pu]; rw [if_pos hdig]
          rw [hF] at hdec
          have R : Hid (CaPost bs w (.returned (.tuple #[.int .u64 0, .bool false])) w) := ⟨by rw [HR.out, hdec]; rfl, rfl⟩
          clear hacc hF ha hdec hM
          have hdig' : ¬ (48 ≤ (c.toNat : Int) ∧ (c.toNat : Int) ≤ 57) := by omega
          clear hdig
          go_wp2
          all_goals go_ret2
          all_goals exact R.out
      · have hkk : k = s.size := by omega
        subst hkk
        have hF : pu M acc (bs.drop s.size) = (acc, 0) := by rw [List.drop_eq_nil_of_le (by omega)]; rfl
        rw [hF] at hdec
        have R : Hid (CaPost bs w (.returned (.tuple #[.int .u64 a, .bool true])) w) := ⟨by rw [HR.out, hdec, ha]; rfl, rfl⟩
        clear hacc hF a0 a1 hdec ha hM
        go_wp2
        go_ret2
        exact R.out

set_option maxHeartbeats 3200000 in
set_option maxRecDepth 100000 in
theorem canon_all (s : ByteArray) (hmax : s.size ≤ 1048576) (w : World) : Calls Tryd.prog 18 #[.string s] w (CaPost s.data.toList w) := by
  cases hL : s.data.toList with
  | nil =>
    have h0 : s.size = 0 := by rw [Lib.size_eq, hL]; rfl
    have R : Hid (CaPost [] w (.returned (.tuple #[.int .u64 0, .bool false])) w) := ⟨rfl, rfl⟩
    clear hL
    go_enter Tryd.func18, Tryd.ntmps18
    go_wp2
    go_ret2
    exact R.out
  | cons c0 r =>
    by_cases h48 : c0 = 48 ∧ r ≠ []
    · have hsz : s.size = r.length + 1 := by rw [Lib.size_eq, hL]; rfl
      have hpos : 0 < s.size := by omega
      have hs0 : s[0]'hpos = c0 := by have := Lib.getD_at s 0 hpos; rw [hL] at this; exact this
      have R : Hid (CaPost (c0 :: r) w (.returned (.tuple #[.int .u64 0, .bool false])) w) := by
        have e : canon (c0 :: r) = (0, false) := by simp only [canon]; rw [if_pos h48]
        exact ⟨by rw [e]; rfl, rfl⟩
      have h1 := (b48 c0).1 h48.1
      have h2 : 1 < (s.size : Int) := by
        have : r.length ≠ 0 := fun e => h48.2 (List.length_eq_zero_iff.1 e)
        omega
      clear hL h48 hsz
      go_enter Tryd.func18, Tryd.ntmps18
      go_wp2
      go_ret2
      exact R.out
    · exact canon_loop s c0 r hL hmax h48 w
end Go.Proofs.Qxb6003994aDoor

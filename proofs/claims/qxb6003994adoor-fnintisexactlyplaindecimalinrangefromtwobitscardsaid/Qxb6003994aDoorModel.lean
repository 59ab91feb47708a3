/-
  Seat b6003994aD: zzModelInt, zzOneBitInt.
-/
import Derived.Test.Qxb6003994aDoorCanon
import Derived.Laws.Bits64
namespace Go.Proofs.Qxb6003994aDoor
open Go.RowKit

theorem nat_not (a : Nat) (ha : a < 18446744073709551616) : (18446744073709551615 ^^^ a : Nat) = 18446744073709551615 - a := by
  have h := BitVec.toNat_not (x := BitVec.ofNat 64 a)
  rw [← BitVec.allOnes_xor, BitVec.toNat_xor, BitVec.toNat_allOnes, BitVec.toNat_ofNat] at h
  have e : a % 2 ^ 64 = a := Nat.mod_eq_of_lt (by simpa using ha)
  rw [e] at h
  simpa using h
theorem not_u64 (a : Int) (h0 : 0 ≤ a) (h1 : a < 18446744073709551616) : bits .xor .u64 IntKind.u64.max a = 18446744073709551615 - a := by
  obtain ⟨n, rfl⟩ := Int.eq_ofNat_of_zero_le h0
  have h := bits_xor_u64_nat 18446744073709551615 n (by omega) (by omega)
  rw [nat_not n (by omega)] at h
  have e : IntKind.u64.max = ((18446744073709551615 : Nat) : Int) := by decide
  rw [e, h]
  omega
theorem neg_u64 (a : Int) (h0 : 1 ≤ a) (h1 : a ≤ 9223372036854775808) : wrap64 (IntKind.u64.wrap (bits .xor .u64 IntKind.u64.max a + 1)) = -a := by
  rw [not_u64 a (by omega) (by omega), IntKind.wrap_u64]
  unfold wrap64
  omega

/-- zzModelInt's answer. -/
def mint (b : Nat) (l : List UInt8) : Int × Bool :=
  if (canon (cutl l)).2 = false then (0, false) else
  if negl l = true then (if (canon (cutl l)).1 = 0 ∨ 2 ^ (b - 1) < (canon (cutl l)).1 then (0, false) else (-((canon (cutl l)).1 : Int), true))
  else (if 2 ^ (b - 1) ≤ (canon (cutl l)).1 then (0, false) else (((canon (cutl l)).1 : Int), true))
def MiPost (b : Nat) (l : List UInt8) (w : World) (e : Ending) (w' : World) : Prop := e = .returned (.tuple #[.int .i64 (mint b l).1, .bool (mint b l).2]) ∧ w' = w

theorem canon_le (l : List UInt8) : (canon l).1 ≤ 18446744073709551615 := by
  cases l with
  | nil => simp [canon]
  | cons c r =>
    simp only [canon]
    split
    · simp
    · split
      · exact (pu_le MX (c :: r) 0 (by omega)).1
      · simp

set_option maxHeartbeats 32000000 in
set_option maxRecDepth 100000 in
theorem mint_minus (b : Nat) (h1 : 1 ≤ b) (h64 : b ≤ 64) (s : ByteArray) (r : List UInt8) (hL : s.data.toList = 45 :: r) (hmax : s.size ≤ 1048576) (w : World) :
    Calls Tryd.prog 12 #[.string s, .int .i64 (b : Int)] w (MiPost b (45 :: r) w) := by
  have hsz : s.size = r.length + 1 := by rw [Lib.size_eq, hL]; rfl
  have hpos : 0 < s.size := by omega
  have hs0 : s[0]'hpos = 45 := by have := Lib.getD_at s 0 hpos; rw [hL] at this; exact this
  have hsl : ∀ W, (Instr.slice 9 (.string s) (some (.int .i64 1)) none none).run Tryd.prog W = .ok (.string (s.extract 1 s.size)) W := fun W => by
    rw [run_slice_string_from_if W 9 s .i64 _ Tryd.underlying9, if_pos ⟨by omega, by omega⟩]
    rfl
  have htl : (s.extract 1 s.size).data.toList = r := by
    rw [Lib.extract_data, hL, List.drop_succ_cons, List.drop_zero, List.take_of_length_le (by omega)]
  have hts : (s.extract 1 s.size).size = s.size - 1 := by rw [Lib.size_eq, htl]; omega
  generalize s.extract 1 s.size = t at hsl htl hts
  have hK := fun w => canon_all t (by omega) w
  rw [htl] at hK
  unfold CaPost at hK
  have hle := canon_le r
  have H : ∀ v bb, mint b (45 :: r) = (v, bb) → Hid (MiPost b (45 :: r) w (.returned (.tuple #[.int .i64 v, .bool bb])) w) := fun v bb h => ⟨by rw [h], rfl⟩
  simp only [mint, negl_minus, cutl_minus] at H
  obtain ⟨⟨u, ok⟩, hu⟩ : ∃ u, u = canon r := ⟨_, rfl⟩
  rw [← hu] at H hK hle
  have hle : u ≤ 18446744073709551615 := hle
  clear hu htl hts hL
  obtain ⟨hC, hC1, hC2, -⟩ := cut_facts b h1 h64
  have hb1 : (1 : Int) ≤ (b : Int) := by omega
  have hb64 : (b : Int) ≤ 64 := by omega
  obtain ⟨a, ha⟩ : ∃ a : Int, a = (u : Int) := ⟨_, rfl⟩
  have a0 : 0 ≤ a := by omega
  have a1 : a < 18446744073709551616 := by omega
  obtain ⟨C, hCC⟩ : ∃ C : Int, C = ((2 ^ (b - 1) : Nat) : Int) := ⟨_, rfl⟩
  rw [← hCC] at hC
  have c0' : 1 ≤ C := by omega
  have c1' : C ≤ 9223372036854775808 := by omega
  cases ok with
  | false =>
    have hK : ∀ w, Calls Tryd.prog 18 #[.string t] w fun e w' => e = .returned (.tuple #[.int .u64 a, .bool false]) ∧ w' = w := by rw [ha]; exact hK
    have R := H 0 false rfl
    clear H hle ha hCC
    go_enter Tryd.func12, Tryd.ntmps12
    go_wp2_with (go_at_call 18; refine (hK _).mono ?_; rintro e w1 ⟨rfl, rfl⟩)
    go_ret2
    exact R.out
  | true =>
    have hK : ∀ w, Calls Tryd.prog 18 #[.string t] w fun e w' => e = .returned (.tuple #[.int .u64 a, .bool true]) ∧ w' = w := by rw [ha]; exact hK
    by_cases hz : u = 0
    · have R := H 0 false (by simp [hz])
      have hz' : a = 0 := by omega
      clear H hle ha hCC hz
      go_enter Tryd.func12, Tryd.ntmps12
      go_wp2_with (go_at_call 18; refine (hK _).mono ?_; rintro e w1 ⟨rfl, rfl⟩)
      go_ret2
      exact R.out
    · by_cases ho : 2 ^ (b - 1) < u
      · have R := H 0 false (by simp [ho])
        have hz' : ¬ a = 0 := by omega
        have ho' : C < a := by omega
        clear H hle ha hCC hz ho
        go_enter Tryd.func12, Tryd.ntmps12
        go_wp2_with (go_at_call 18; refine (hK _).mono ?_; rintro e w1 ⟨rfl, rfl⟩)
        go_ret2
        exact R.out
      · have R := H (-(u : Int)) true (by simp [ho, hz])
        have hz1 : (a == 0) = false := beq_eq_false_iff_ne.2 (by omega)
        have ho1 : decide (C < a) = false := decide_eq_false (by omega)
        rw [← ha, ← neg_u64 a (by omega) (by omega)] at R
        clear H hle ha hCC hz ho hC1 hC2
        go_enter Tryd.func12, Tryd.ntmps12
        go_wp2_with (go_at_call 18; refine (hK _).mono ?_; rintro e w1 ⟨rfl, rfl⟩)
        go_ret2
        exact R.out

set_option maxHeartbeats 32000000 in
set_option maxRecDepth 100000 in
theorem mint_other (b : Nat) (h1 : 1 ≤ b) (h64 : b ≤ 64) (s : ByteArray) (c0 : UInt8) (r : List UInt8) (hL : s.data.toList = c0 :: r) (h45 : c0 ≠ 45) (hmax : s.size ≤ 1048576) (w : World) :
    Calls Tryd.prog 12 #[.string s, .int .i64 (b : Int)] w (MiPost b (c0 :: r) w) := by
  have hsz : s.size = r.length + 1 := by rw [Lib.size_eq, hL]; rfl
  have hpos : 0 < s.size := by omega
  have hs0 : s[0]'hpos = c0 := by have := Lib.getD_at s 0 hpos; rw [hL] at this; exact this
  have i45 : ¬ (c0.toNat : Int) = 45 := fun h => h45 (UInt8.toNat_inj.1 (by show c0.toNat = 45; omega))
  have hK := fun w => canon_all s hmax w
  rw [hL] at hK
  unfold CaPost at hK
  have hle := canon_le (c0 :: r)
  have H : ∀ v bb, mint b (c0 :: r) = (v, bb) → Hid (MiPost b (c0 :: r) w (.returned (.tuple #[.int .i64 v, .bool bb])) w) := fun v bb h => ⟨by rw [h], rfl⟩
  simp only [mint, negl_other c0 r h45, cutl_other c0 r h45] at H
  obtain ⟨⟨u, ok⟩, hu⟩ : ∃ u, u = canon (c0 :: r) := ⟨_, rfl⟩
  rw [← hu] at H hK hle
  have hle : u ≤ 18446744073709551615 := hle
  clear hu hL h45
  obtain ⟨hC, hC1, hC2, -⟩ := cut_facts b h1 h64
  have hb1 : (1 : Int) ≤ (b : Int) := by omega
  have hb64 : (b : Int) ≤ 64 := by omega
  obtain ⟨a, ha⟩ : ∃ a : Int, a = (u : Int) := ⟨_, rfl⟩
  have a0 : 0 ≤ a := by omega
  have a1 : a < 18446744073709551616 := by omega
  obtain ⟨C, hCC⟩ : ∃ C : Int, C = ((2 ^ (b - 1) : Nat) : Int) := ⟨_, rfl⟩
  rw [← hCC] at hC
  have c0' : 1 ≤ C := by omega
  have c1' : C ≤ 9223372036854775808 := by omega
  cases ok with
  | false =>
    have hK : ∀ w, Calls Tryd.prog 18 #[.string s] w fun e w' => e = .returned (.tuple #[.int .u64 a, .bool false]) ∧ w' = w := by rw [ha]; exact hK
    have R := H 0 false rfl
    clear H hle ha hCC
    go_enter Tryd.func12, Tryd.ntmps12
    go_wp2_with (go_at_call 18; refine (hK _).mono ?_; rintro e w1 ⟨rfl, rfl⟩)
    go_ret2
    exact R.out
  | true =>
    have hK : ∀ w, Calls Tryd.prog 18 #[.string s] w fun e w' => e = .returned (.tuple #[.int .u64 a, .bool true]) ∧ w' = w := by rw [ha]; exact hK
    by_cases ho : 2 ^ (b - 1) ≤ u
    · have R := H 0 false (by simp [ho])
      have ho' : C ≤ a := by omega
      clear H hle ha hCC ho
      go_enter Tryd.func12, Tryd.ntmps12
      go_wp2_with (go_at_call 18; refine (hK _).mono ?_; rintro e w1 ⟨rfl, rfl⟩)
      go_ret2
      exact R.out
    · have R := H (u : Int) true (by simp [ho])
      have ho' : a < C := by omega
      have hw : wrap64 a = a := by unfold wrap64; omega
      rw [← ha] at R
      clear H hle ha hCC ho hC1 hC2
      go_enter Tryd.func12, Tryd.ntmps12
      go_wp2_with (go_at_call 18; refine (hK _).mono ?_; rintro e w1 ⟨rfl, rfl⟩)
      go_ret2
      exact R.out

set_option maxHeartbeats 3200000 in
set_option maxRecDepth 100000 in
theorem mint_all (b : Nat) (h1 : 1 ≤ b) (h64 : b ≤ 64) (s : ByteArray) (hmax : s.size ≤ 1048576) (w : World) :
    Calls Tryd.prog 12 #[.string s, .int .i64 (b : Int)] w (MiPost b s.data.toList w) := by
  cases hL : s.data.toList with
  | nil =>
    have h0 : s.size = 0 := by rw [Lib.size_eq, hL]; rfl
    have hs : s = ⟨#[]⟩ := by
      apply ByteArray.ext
      exact Array.eq_empty_of_size_eq_zero h0
    subst hs
    have hK := fun w => canon_all ⟨#[]⟩ hmax w
    have hK : ∀ w, Calls Tryd.prog 18 #[.string ⟨#[]⟩] w fun e w' => e = .returned (.tuple #[.int .u64 0, .bool false]) ∧ w' = w := hK
    have R : Hid (MiPost b [] w (.returned (.tuple #[.int .i64 0, .bool false])) w) := ⟨rfl, rfl⟩
    clear h0 hL
    go_enter Tryd.func12, Tryd.ntmps12
    go_wp2_with (go_at_call 18; refine (hK _).mono ?_; rintro e w1 ⟨rfl, rfl⟩)
    go_ret2
    exact R.out
  | cons c0 r =>
    by_cases h45 : c0 = 45
    · subst h45
      exact mint_minus b h1 h64 s r hL hmax w
    · exact mint_other b h1 h64 s c0 r hL h45 hmax w
end Go.Proofs.Qxb6003994aDoor

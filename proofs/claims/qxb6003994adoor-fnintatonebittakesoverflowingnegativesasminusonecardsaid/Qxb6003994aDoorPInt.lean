/-
  Seat b6003994aD: internal/strconv.ParseInt at base 10 and any bit size; strconv.ParseInt.
-/
import Derived.Test.Qxb6003994aDoorToE
import Derived.Lib.ItoaWalk
namespace Go.Proofs.Qxb6003994aDoor
open Go.RowKit

theorem pu_le (M : Nat) : ∀ (l : List UInt8) (n : Nat), n ≤ M → (pu M n l).1 ≤ M ∧ ((pu M n l).2 = 0 ∨ (pu M n l).2 = 1 ∨ (pu M n l).2 = 2)
  | [], n, h => ⟨h, .inl rfl⟩
  | c :: cs, n, h => by
    simp only [pu]
    split
    · exact ⟨by omega, .inr (.inr rfl)⟩
    · split
      · exact ⟨Nat.le_refl _, .inr (.inl rfl)⟩
      · exact pu_le M cs _ (by omega)

/-- ParseUint: of no byte: no number. -/
def pui (M : Nat) (l : List UInt8) : Nat × Int := if l = [] then (0, 2) else pu M 0 l
theorem pui_le (M : Nat) (l : List UInt8) : (pui M l).1 ≤ M ∧ ((pui M l).2 = 0 ∨ (pui M l).2 = 1 ∨ (pui M l).2 = 2) := by
  unfold pui
  split
  · exact ⟨by omega, .inr (.inr rfl)⟩
  · exact pu_le M l 0 (by omega)

def UiPost (M : Nat) (l : List UInt8) (w : World) (e : Ending) (w' : World) : Prop := e = .returned (.tuple #[.int .u64 ((pui M l).1 : Int), errv (pui M l).2]) ∧ Below w.heap.size w w'

set_option maxHeartbeats 3200000 in
set_option maxRecDepth 100000 in
theorem puint_empty (b : Int) (w : World) : Calls Tryd.prog 21 #[.string ⟨#[]⟩, .int .i64 10, .int .i64 b] w fun e w' => e = .returned (.tuple #[.int .u64 0, .iface 41 (.int .i64 2)]) ∧ w' = w := by
  go_enter Tryd.func21, Tryd.ntmps21
  go_wp2
  go_ret2
  exact ⟨rfl, rfl⟩

theorem below_bytes (w : World) (t : ByteArray) : Below w.heap.size w (Lib.bytesWorld w 5 t) := Lib.bytesWorld_below w 5 t

theorem uint_all (b M : Nat) (h1 : 1 ≤ b) (h64 : b ≤ 64) (hM : M = 2 ^ b - 1) (t : ByteArray) (hmax : t.size ≤ 1048576) (w : World) :
    Calls Tryd.prog 21 #[.string t, .int .i64 10, .int .i64 (b : Int)] w (UiPost M t.data.toList w) := by
  by_cases h0 : t.size = 0
  · have hs : t = ⟨#[]⟩ := by
      apply ByteArray.ext
      exact Array.eq_empty_of_size_eq_zero h0
    subst hs
    refine (puint_empty b w).mono ?_
    rintro e w' ⟨rfl, rfl⟩
    exact ⟨rfl, Below.refl _ _⟩
  · refine (puint_any b M h1 h64 hM t h0 hmax w).mono ?_
    rintro e w' ⟨rfl, rfl⟩
    refine ⟨?_, below_bytes w t⟩
    have hne : t.data.toList ≠ [] := fun e => h0 (by rw [Lib.size_eq, e]; rfl)
    simp only [pui, if_neg hne]

/-- The whole answer: the number and 0; or an error's number. -/
def tail (b : Nat) (neg : Bool) (r : Nat × Int) : Int × Int :=
  if r.2 = 2 then (0, 2) else
  if neg then (if 2 ^ (b - 1) < r.1 then (0, 1) else (-(r.1 : Int), 0)) else (if 2 ^ (b - 1) ≤ r.1 then (0, 1) else ((r.1 : Int), 0))
def pint (b : Nat) : List UInt8 → Int × Int
  | [] => (0, 2)
  | c :: cs => if c = 43 then tail b false (pui (2 ^ b - 1) cs) else if c = 45 then tail b true (pui (2 ^ b - 1) cs) else tail b false (pui (2 ^ b - 1) (c :: cs))

/-- What ParseInt leaves: the number counts where there is no error. -/
def IiPost (r : Int × Int) (w : World) (e : Ending) (w' : World) : Prop := ∃ v, e = .returned (.tuple #[.int .i64 v, errv r.2]) ∧ (r.2 = 0 → v = r.1) ∧ Below w.heap.size w w'
theorem IiPost.intro {r : Int × Int} {w : World} {e : Ending} {w' : World} (v : Int) (h : e = .returned (.tuple #[.int .i64 v, errv r.2])) (h2 : r.2 = 0 → v = r.1) (h3 : Below w.heap.size w w') : IiPost r w e w' := ⟨v, h, h2, h3⟩

theorem tail_2 (b : Nat) (neg : Bool) (u : Nat) : tail b neg (u, 2) = (0, 2) := by simp [tail]
theorem tail_fo (b u : Nat) (c : Int) (hc : c ≠ 2) (h : 2 ^ (b - 1) ≤ u) : tail b false (u, c) = (0, 1) := by simp [tail, hc, h]
theorem tail_fi (b u : Nat) (c : Int) (hc : c ≠ 2) (h : ¬ 2 ^ (b - 1) ≤ u) : tail b false (u, c) = ((u : Int), 0) := by simp [tail, hc, h]
theorem tail_to (b u : Nat) (c : Int) (hc : c ≠ 2) (h : 2 ^ (b - 1) < u) : tail b true (u, c) = (0, 1) := by simp [tail, hc, h]
theorem tail_ti (b u : Nat) (c : Int) (hc : c ≠ 2) (h : ¬ 2 ^ (b - 1) < u) : tail b true (u, c) = (-(u : Int), 0) := by simp [tail, hc, h]

theorem cut_facts (b : Nat) (h1 : 1 ≤ b) (h64 : b ≤ 64) : IntKind.u64.wrap (2 ^ (b - 1)) = ((2 ^ (b - 1) : Nat) : Int) ∧ 1 ≤ 2 ^ (b - 1) ∧ 2 ^ (b - 1) ≤ 9223372036854775808 ∧ 2 ^ b - 1 < 18446744073709551616 := by
  have h2 : 2 ^ (b - 1) ≤ 2 ^ 63 := Nat.pow_le_pow_right (by omega) (by omega)
  have h2' : 2 ^ b ≤ 2 ^ 64 := Nat.pow_le_pow_right (by omega) (by omega)
  have h3 : (2 : Nat) ^ 63 = 9223372036854775808 := by decide
  have h3' : (2 : Nat) ^ 64 = 18446744073709551616 := by decide
  have h4 : 1 ≤ 2 ^ (b - 1) := Nat.one_le_two_pow
  have h4' : 1 ≤ 2 ^ b := Nat.one_le_two_pow
  have h5 : ((2 ^ (b - 1) : Nat) : Int) = (2 : Int) ^ (b - 1) := by simp
  rw [h3] at h2
  rw [h3'] at h2'
  refine ⟨?_, h4, h2, by omega⟩
  rw [IntKind.wrap_u64, ← h5]
  clear h5
  generalize 2 ^ (b - 1) = q at *
  omega

set_option maxHeartbeats 32000000 in
set_option maxRecDepth 100000 in
theorem pint_one (b : Nat) (h1 : 1 ≤ b) (h64 : b ≤ 64) (s : ByteArray) (hmax : s.size ≤ 1048576) (w : World) (hne : s.size ≠ 0) :
    Calls Tryd.prog 23 #[.string s, .int .i64 10, .int .i64 (b : Int)] w (IiPost (pint b s.data.toList) w) := by
  have hemp : s.toList.isEmpty = false := by
    rw [← decide_eq_emptyBytes]
    exact decide_eq_false (fun h => hne (by rw [h]; rfl))
  have hpos : 0 < s.size := by omega
  obtain ⟨c0, r, hL⟩ : ∃ c0 r, s.data.toList = c0 :: r := by
    cases h : s.data.toList with
    | nil => exact absurd (by rw [Lib.size_eq, h]; rfl) hne
    | cons c0 r => exact ⟨c0, r, rfl⟩
  have hsz : s.size = r.length + 1 := by rw [Lib.size_eq, hL]; rfl
  have hs0 : s[0]'hpos = c0 := by have := Lib.getD_at s 0 hpos; rw [hL] at this; exact this
  have hq := neqE
  have hb1 : (1 : Int) ≤ (b : Int) := by omega
  have hb64 : (b : Int) ≤ 64 := by omega
  by_cases h43 : c0 = 43
  · subst h43
    have hres : pint b s.data.toList = tail b false (pui (2 ^ b - 1) r) := by rw [hL]; rfl
    have hsl : ∀ W, (Instr.slice 9 (.string s) (some (.int .i64 1)) none none).run Tryd.prog W = .ok (.string (s.extract 1 s.size)) W := fun W => by
      rw [run_slice_string_from_if W 9 s .i64 _ Tryd.underlying9, if_pos ⟨by omega, by omega⟩]
      rfl
    have htl : (s.extract 1 s.size).data.toList = r := by
      rw [Lib.extract_data, hL, List.drop_succ_cons, List.drop_zero, List.take_of_length_le (by omega)]
    have hts : (s.extract 1 s.size).size = s.size - 1 := by rw [Lib.size_eq, htl]; omega
    generalize s.extract 1 s.size = t at hsl htl hts
    have hU := uint_all b _ h1 h64 rfl t (by omega) w
    rw [htl] at hU
    obtain ⟨un, code, hun⟩ : ∃ un code, pui (2 ^ b - 1) r = (un, code) := ⟨_, _, rfl⟩
    have hle := pui_le (2 ^ b - 1) r
    rw [hun] at hle hres
    have hU : Calls Tryd.prog 21 #[.string t, .int .i64 10, .int .i64 (b : Int)] w fun e w' => e = .returned (.tuple #[.int .u64 (un : Int), errv code]) ∧ Below w.heap.size w w' := by
      unfold UiPost at hU
      rw [hun] at hU
      exact hU
    clear hun
    obtain ⟨hle1, hle2⟩ := hle
    have hle1 : un ≤ 2 ^ b - 1 := hle1
    have hle2 : code = 0 ∨ code = 1 ∨ code = 2 := hle2
    obtain ⟨hC, hC1, hC2, hM⟩ := cut_facts b h1 h64
    obtain ⟨a, ha⟩ : ∃ a : Int, a = (un : Int) := ⟨_, rfl⟩
    rw [← ha] at hU
    have a0 : 0 ≤ a := by omega
    have a1 : a < 18446744073709551616 := by omega
    obtain ⟨C, hCC⟩ : ∃ C : Int, C = ((2 ^ (b - 1) : Nat) : Int) := ⟨_, rfl⟩
    rw [← hCC] at hC
    have c0' : 1 ≤ C := by omega
    have c1' : C ≤ 9223372036854775808 := by omega
    clear hL hle1 hM hC1 hC2
    rcases hle2 with rfl | rfl | rfl
    · have hU : Calls Tryd.prog 21 #[.string t, .int .i64 10, .int .i64 (b : Int)] w fun e w' => e = .returned (.tuple #[.int .u64 a, .nilIface]) ∧ Below w.heap.size w w' := hU
      by_cases hcut : 2 ^ (b - 1) ≤ un
      · have HR := hidP (hres.trans (tail_fo b un 0 (by decide) hcut))
        have hcut' : C ≤ a := by omega
        clear hres hcut hCC ha
        go_enter Tryd.func23, Tryd.ntmps23
        go_wp2_with (go_at_call 21; refine hU.mono ?_; rintro e w1 ⟨rfl, hw1⟩)
        go_ret2
        refine IiPost.intro _ (by rw [HR.out]; rfl) ?_ hw1
        rw [HR.out]
        exact fun h => absurd h (by decide)
      · have HR := hidP (hres.trans (tail_fi b un 0 (by decide) hcut))
        have hcut' : a < C := by omega
        have HA := hidP ha
        clear hres hcut hCC ha
        go_enter Tryd.func23, Tryd.ntmps23
        go_wp2_with (go_at_call 21; refine hU.mono ?_; rintro e w1 ⟨rfl, hw1⟩)
        go_ret2
        refine IiPost.intro _ (by rw [HR.out]; rfl) ?_ hw1
        rw [HR.out]
        exact fun _ => by rw [HA.out.symm]; first | done | (unfold wrap64; omega)
    · have hU : Calls Tryd.prog 21 #[.string t, .int .i64 10, .int .i64 (b : Int)] w fun e w' => e = .returned (.tuple #[.int .u64 a, .iface 41 (.int .i64 1)]) ∧ Below w.heap.size w w' := hU
      by_cases hcut : 2 ^ (b - 1) ≤ un
      · have HR := hidP (hres.trans (tail_fo b un 1 (by decide) hcut))
        have hcut' : C ≤ a := by omega
        clear hres hcut hCC ha
        go_enter Tryd.func23, Tryd.ntmps23
        go_wp2_with (go_at_call 21; refine hU.mono ?_; rintro e w1 ⟨rfl, hw1⟩)
        go_ret2
        refine IiPost.intro _ (by rw [HR.out]; rfl) ?_ hw1
        rw [HR.out]
        exact fun h => absurd h (by decide)
      · have HR := hidP (hres.trans (tail_fi b un 1 (by decide) hcut))
        have hcut' : a < C := by omega
        have HA := hidP ha
        clear hres hcut hCC ha
        go_enter Tryd.func23, Tryd.ntmps23
        go_wp2_with (go_at_call 21; refine hU.mono ?_; rintro e w1 ⟨rfl, hw1⟩)
        go_ret2
        refine IiPost.intro _ (by rw [HR.out]; rfl) ?_ hw1
        rw [HR.out]
        exact fun _ => by rw [HA.out.symm]; first | done | (unfold wrap64; omega)
    · have hU : Calls Tryd.prog 21 #[.string t, .int .i64 10, .int .i64 (b : Int)] w fun e w' => e = .returned (.tuple #[.int .u64 a, .iface 41 (.int .i64 2)]) ∧ Below w.heap.size w w' := hU
      have HR := hidP (hres.trans (tail_2 b false un))
      clear hres hCC ha
      go_enter Tryd.func23, Tryd.ntmps23
      go_wp2_with (go_at_call 21; refine hU.mono ?_; rintro e w1 ⟨rfl, hw1⟩)
      go_ret2
      refine IiPost.intro _ (by rw [HR.out]; rfl) ?_ hw1
      rw [HR.out]
      exact fun h => absurd h (by decide)
  by_cases h45 : c0 = 45
  · subst h45
    have hres : pint b s.data.toList = tail b true (pui (2 ^ b - 1) r) := by rw [hL]; rfl
    have hsl : ∀ W, (Instr.slice 9 (.string s) (some (.int .i64 1)) none none).run Tryd.prog W = .ok (.string (s.extract 1 s.size)) W := fun W => by
      rw [run_slice_string_from_if W 9 s .i64 _ Tryd.underlying9, if_pos ⟨by omega, by omega⟩]
      rfl
    have htl : (s.extract 1 s.size).data.toList = r := by
      rw [Lib.extract_data, hL, List.drop_succ_cons, List.drop_zero, List.take_of_length_le (by omega)]
    have hts : (s.extract 1 s.size).size = s.size - 1 := by rw [Lib.size_eq, htl]; omega
    generalize s.extract 1 s.size = t at hsl htl hts
    have hU := uint_all b _ h1 h64 rfl t (by omega) w
    rw [htl] at hU
    obtain ⟨un, code, hun⟩ : ∃ un code, pui (2 ^ b - 1) r = (un, code) := ⟨_, _, rfl⟩
    have hle := pui_le (2 ^ b - 1) r
    rw [hun] at hle hres
    have hU : Calls Tryd.prog 21 #[.string t, .int .i64 10, .int .i64 (b : Int)] w fun e w' => e = .returned (.tuple #[.int .u64 (un : Int), errv code]) ∧ Below w.heap.size w w' := by
      unfold UiPost at hU
      rw [hun] at hU
      exact hU
    clear hun
    obtain ⟨hle1, hle2⟩ := hle
    have hle1 : un ≤ 2 ^ b - 1 := hle1
    have hle2 : code = 0 ∨ code = 1 ∨ code = 2 := hle2
    obtain ⟨hC, hC1, hC2, hM⟩ := cut_facts b h1 h64
    obtain ⟨a, ha⟩ : ∃ a : Int, a = (un : Int) := ⟨_, rfl⟩
    rw [← ha] at hU
    have a0 : 0 ≤ a := by omega
    have a1 : a < 18446744073709551616 := by omega
    obtain ⟨C, hCC⟩ : ∃ C : Int, C = ((2 ^ (b - 1) : Nat) : Int) := ⟨_, rfl⟩
    rw [← hCC] at hC
    have c0' : 1 ≤ C := by omega
    have c1' : C ≤ 9223372036854775808 := by omega
    clear hL hle1 hM hC1 hC2
    rcases hle2 with rfl | rfl | rfl
    · have hU : Calls Tryd.prog 21 #[.string t, .int .i64 10, .int .i64 (b : Int)] w fun e w' => e = .returned (.tuple #[.int .u64 a, .nilIface]) ∧ Below w.heap.size w w' := hU
      by_cases hcut : 2 ^ (b - 1) < un
      · have HR := hidP (hres.trans (tail_to b un 0 (by decide) hcut))
        have hcut' : C < a := by omega
        clear hres hcut hCC ha
        go_enter Tryd.func23, Tryd.ntmps23
        go_wp2_with (go_at_call 21; refine hU.mono ?_; rintro e w1 ⟨rfl, hw1⟩)
        go_ret2
        refine IiPost.intro _ (by rw [HR.out]; rfl) ?_ hw1
        rw [HR.out]
        exact fun h => absurd h (by decide)
      · have HR := hidP (hres.trans (tail_ti b un 0 (by decide) hcut))
        have hcut' : a ≤ C := by omega
        have HA := hidP ha
        clear hres hcut hCC ha
        go_enter Tryd.func23, Tryd.ntmps23
        go_wp2_with (go_at_call 21; refine hU.mono ?_; rintro e w1 ⟨rfl, hw1⟩)
        go_ret2
        refine IiPost.intro _ (by rw [HR.out]; rfl) ?_ hw1
        rw [HR.out]
        exact fun _ => by rw [HA.out.symm]; first | done | (unfold wrap64; omega)
    · have hU : Calls Tryd.prog 21 #[.string t, .int .i64 10, .int .i64 (b : Int)] w fun e w' => e = .returned (.tuple #[.int .u64 a, .iface 41 (.int .i64 1)]) ∧ Below w.heap.size w w' := hU
      by_cases hcut : 2 ^ (b - 1) < un
      · have HR := hidP (hres.trans (tail_to b un 1 (by decide) hcut))
        have hcut' : C < a := by omega
        clear hres hcut hCC ha
        go_enter Tryd.func23, Tryd.ntmps23
        go_wp2_with (go_at_call 21; refine hU.mono ?_; rintro e w1 ⟨rfl, hw1⟩)
        go_ret2
        refine IiPost.intro _ (by rw [HR.out]; rfl) ?_ hw1
        rw [HR.out]
        exact fun h => absurd h (by decide)
      · have HR := hidP (hres.trans (tail_ti b un 1 (by decide) hcut))
        have hcut' : a ≤ C := by omega
        have HA := hidP ha
        clear hres hcut hCC ha
        go_enter Tryd.func23, Tryd.ntmps23
        go_wp2_with (go_at_call 21; refine hU.mono ?_; rintro e w1 ⟨rfl, hw1⟩)
        go_ret2
        refine IiPost.intro _ (by rw [HR.out]; rfl) ?_ hw1
        rw [HR.out]
        exact fun _ => by rw [HA.out.symm]; first | done | (unfold wrap64; omega)
    · have hU : Calls Tryd.prog 21 #[.string t, .int .i64 10, .int .i64 (b : Int)] w fun e w' => e = .returned (.tuple #[.int .u64 a, .iface 41 (.int .i64 2)]) ∧ Below w.heap.size w w' := hU
      have HR := hidP (hres.trans (tail_2 b true un))
      clear hres hCC ha
      go_enter Tryd.func23, Tryd.ntmps23
      go_wp2_with (go_at_call 21; refine hU.mono ?_; rintro e w1 ⟨rfl, hw1⟩)
      go_ret2
      refine IiPost.intro _ (by rw [HR.out]; rfl) ?_ hw1
      rw [HR.out]
      exact fun h => absurd h (by decide)
  · have n43 : c0.toNat ≠ 43 := fun h => h43 (UInt8.toNat_inj.1 h)
    have n45 : c0.toNat ≠ 45 := fun h => h45 (UInt8.toNat_inj.1 h)
    have i43 : ¬ (c0.toNat : Int) = 43 := by omega
    have i45 : ¬ (c0.toNat : Int) = 45 := by omega
    have hres : pint b s.data.toList = tail b false (pui (2 ^ b - 1) (c0 :: r)) := by rw [hL]; simp only [pint]; rw [if_neg h43, if_neg h45]
    have hU := uint_all b _ h1 h64 rfl s hmax w
    rw [hL] at hU
    obtain ⟨un, code, hun⟩ : ∃ un code, pui (2 ^ b - 1) (c0 :: r) = (un, code) := ⟨_, _, rfl⟩
    have hle := pui_le (2 ^ b - 1) (c0 :: r)
    rw [hun] at hle hres
    have hU : Calls Tryd.prog 21 #[.string s, .int .i64 10, .int .i64 (b : Int)] w fun e w' => e = .returned (.tuple #[.int .u64 (un : Int), errv code]) ∧ Below w.heap.size w w' := by
      unfold UiPost at hU
      rw [hun] at hU
      exact hU
    clear hun
    obtain ⟨hle1, hle2⟩ := hle
    have hle1 : un ≤ 2 ^ b - 1 := hle1
    have hle2 : code = 0 ∨ code = 1 ∨ code = 2 := hle2
    obtain ⟨hC, hC1, hC2, hM⟩ := cut_facts b h1 h64
    obtain ⟨a, ha⟩ : ∃ a : Int, a = (un : Int) := ⟨_, rfl⟩
    rw [← ha] at hU
    have a0 : 0 ≤ a := by omega
    have a1 : a < 18446744073709551616 := by omega
    obtain ⟨C, hCC⟩ : ∃ C : Int, C = ((2 ^ (b - 1) : Nat) : Int) := ⟨_, rfl⟩
    rw [← hCC] at hC
    have c0' : 1 ≤ C := by omega
    have c1' : C ≤ 9223372036854775808 := by omega
    clear hL hle1 hM hC1 hC2
    rcases hle2 with rfl | rfl | rfl
    · have hU : Calls Tryd.prog 21 #[.string s, .int .i64 10, .int .i64 (b : Int)] w fun e w' => e = .returned (.tuple #[.int .u64 a, .nilIface]) ∧ Below w.heap.size w w' := hU
      by_cases hcut : 2 ^ (b - 1) ≤ un
      · have HR := hidP (hres.trans (tail_fo b un 0 (by decide) hcut))
        have hcut' : C ≤ a := by omega
        clear hres hcut hCC ha
        go_enter Tryd.func23, Tryd.ntmps23
        go_wp2_with (go_at_call 21; refine hU.mono ?_; rintro e w1 ⟨rfl, hw1⟩)
        go_ret2
        refine IiPost.intro _ (by rw [HR.out]; rfl) ?_ hw1
        rw [HR.out]
        exact fun h => absurd h (by decide)
      · have HR := hidP (hres.trans (tail_fi b un 0 (by decide) hcut))
        have hcut' : a < C := by omega
        have HA := hidP ha
        clear hres hcut hCC ha
        go_enter Tryd.func23, Tryd.ntmps23
        go_wp2_with (go_at_call 21; refine hU.mono ?_; rintro e w1 ⟨rfl, hw1⟩)
        go_ret2
        refine IiPost.intro _ (by rw [HR.out]; rfl) ?_ hw1
        rw [HR.out]
        exact fun _ => by rw [HA.out.symm]; first | done | (unfold wrap64; omega)
    · have hU : Calls Tryd.prog 21 #[.string s, .int .i64 10, .int .i64 (b : Int)] w fun e w' => e = .returned (.tuple #[.int .u64 a, .iface 41 (.int .i64 1)]) ∧ Below w.heap.size w w' := hU
      by_cases hcut : 2 ^ (b - 1) ≤ un
      · have HR := hidP (hres.trans (tail_fo b un 1 (by decide) hcut))
        have hcut' : C ≤ a := by omega
        clear hres hcut hCC ha
        go_enter Tryd.func23, Tryd.ntmps23
        go_wp2_with (go_at_call 21; refine hU.mono ?_; rintro e w1 ⟨rfl, hw1⟩)
        go_ret2
        refine IiPost.intro _ (by rw [HR.out]; rfl) ?_ hw1
        rw [HR.out]
        exact fun h => absurd h (by decide)
      · have HR := hidP (hres.trans (tail_fi b un 1 (by decide) hcut))
        have hcut' : a < C := by omega
        have HA := hidP ha
        clear hres hcut hCC ha
        go_enter Tryd.func23, Tryd.ntmps23
        go_wp2_with (go_at_call 21; refine hU.mono ?_; rintro e w1 ⟨rfl, hw1⟩)
        go_ret2
        refine IiPost.intro _ (by rw [HR.out]; rfl) ?_ hw1
        rw [HR.out]
        exact fun _ => by rw [HA.out.symm]; first | done | (unfold wrap64; omega)
    · have hU : Calls Tryd.prog 21 #[.string s, .int .i64 10, .int .i64 (b : Int)] w fun e w' => e = .returned (.tuple #[.int .u64 a, .iface 41 (.int .i64 2)]) ∧ Below w.heap.size w w' := hU
      have HR := hidP (hres.trans (tail_2 b false un))
      clear hres hCC ha
      go_enter Tryd.func23, Tryd.ntmps23
      go_wp2_with (go_at_call 21; refine hU.mono ?_; rintro e w1 ⟨rfl, hw1⟩)
      go_ret2
      refine IiPost.intro _ (by rw [HR.out]; rfl) ?_ hw1
      rw [HR.out]
      exact fun h => absurd h (by decide)

set_option maxHeartbeats 3200000 in
set_option maxRecDepth 100000 in
theorem pint_all (b : Nat) (h1 : 1 ≤ b) (h64 : b ≤ 64) (s : ByteArray) (hmax : s.size ≤ 1048576) (w : World) :
    Calls Tryd.prog 23 #[.string s, .int .i64 10, .int .i64 (b : Int)] w (IiPost (pint b s.data.toList) w) := by
  by_cases h0 : s.size = 0
  · have hs : s = ⟨#[]⟩ := by
      apply ByteArray.ext
      exact Array.eq_empty_of_size_eq_zero h0
    subst hs
    go_enter Tryd.func23, Tryd.ntmps23
    go_wp2
    go_ret2
    exact IiPost.intro _ rfl (fun h => absurd h (by simp [pint])) (Below.refl _ _)
  · exact pint_one b h1 h64 s hmax w h0
end Go.Proofs.Qxb6003994aDoor

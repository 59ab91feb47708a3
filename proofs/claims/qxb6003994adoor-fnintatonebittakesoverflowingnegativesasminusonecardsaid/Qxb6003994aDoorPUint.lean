/-
  Seat b6003994aD: internal/strconv's lower, ParseUint at base 10 and any bit size (after the shelf's walk at 32).
-/
import Derived.Test.Qxb6003994aDoorRows
import Derived.Lib.Strings
import Derived.Lib.Walk
import Derived.Lib.ConvBytes
import Derived.Lib.ParseIntBMem
import Derived.Lib.Hide
import Derived.Laws.Strings3
import Derived.Laws.Closers25
import Derived.Laws.Closers25b
import Derived.WalkKit
import Derived.WalkSpells
import Derived.WalkLawsBesides
import Derived.BigCall
import Derived.BigGuard
namespace Go.Proofs.Qxb6003994aDoor
open Go.RowKit

theorem hidP {p : Prop} (h : p) : Hid p := h

/-- The number, and 0; or 1 (out of range), 2 (no number). -/
def pu (M : Nat) : Nat → List UInt8 → Nat × Int
  | n, [] => (n, 0)
  | n, c :: cs => if ¬ (48 ≤ c.toNat ∧ c.toNat ≤ 57) then (0, 2) else if M < n * 10 + (c.toNat - 48) then (M, 1) else pu M (n * 10 + (c.toNat - 48)) cs
def errv (c : Int) : Value := if c = 0 then .nilIface else .iface 41 (.int .i64 c)

/-- What ParseUint leaves. -/
def PuPost (M : Nat) (bs : List UInt8) (W1 : World) (e : Ending) (w' : World) : Prop := e = .returned (.tuple #[.int .u64 ((pu M 0 bs).1 : Int), errv (pu M 0 bs).2]) ∧ w' = W1

def low (c : Int) : Int := bits .or .u8 c 32
theorem low_lo (c : Int) : 0 ≤ low c := bits_lo_u8 .or c 32
theorem low_hi (c : Int) : low c ≤ 255 := bits_hi_u8 .or c 32

set_option maxHeartbeats 1000000 in
theorem lower_any (c : Int) (w : World) : Calls Tryd.prog 25 #[.int .u8 c] w fun e w' => e = .returned (.int .u8 (low c)) ∧ w' = w := by
  go_enter Tryd.func25, Tryd.ntmps25
  go_wp2
  go_ret
  exact ⟨rfl, rfl⟩

theorem hmv0 (bs' M : Nat) (h64 : bs' ≤ 64) (hM : M = 2 ^ bs' - 1) : IntKind.u64.wrap (IntKind.u64.wrap (2 ^ bs') - 1) = (M : Int) := by
  have h2 : 2 ^ bs' ≤ 2 ^ 64 := Nat.pow_le_pow_right (by omega) h64
  have h3 : (2 : Nat) ^ 64 = 18446744073709551616 := by decide
  have h4 : 1 ≤ 2 ^ bs' := Nat.one_le_two_pow
  have h5 : ((2 ^ bs' : Nat) : Int) = (2 : Int) ^ bs' := by simp
  rw [IntKind.wrap_u64, IntKind.wrap_u64, ← h5, hM]
  clear h5 hM
  rw [h3] at h2
  generalize 2 ^ bs' = q at *
  omega

set_option maxHeartbeats 32000000 in
set_option maxRecDepth 100000 in
theorem puint_any (bs' : Nat) (M : Nat) (h1 : 1 ≤ bs') (h64 : bs' ≤ 64) (hM : M = 2 ^ bs' - 1) (t : ByteArray) (hne : t.size ≠ 0) (hmax : t.size ≤ 1048576) (w : World) :
    Calls Tryd.prog 21 #[.string t, .int .i64 10, .int .i64 (bs' : Int)] w (PuPost M t.data.toList (Lib.bytesWorld w 5 t)) := by
  have hemp : t.toList.isEmpty = false := by
    rw [← decide_eq_emptyBytes]
    exact decide_eq_false (fun h => hne (by rw [h]; rfl))
  have hcv := Lib.run_convert_string_bytes (P := Tryd.prog) w 9 43 5 t (u := .string) Tryd.underlying9 Tryd.underlying43 Tryd.underlying5
  have hB : ∀ j, j < t.size → (Lib.bytesWorld w 5 t).cell? ⟨w.heap.size, j, none⟩ = some (.int .u8 (t.data.toList.getD j 0).toNat) := fun j hj => Lib.bytesWorld_cell w 5 t j hj
  obtain ⟨W1, hW1⟩ : ∃ W1, W1 = Lib.bytesWorld w 5 t := ⟨_, rfl⟩
  rw [← hW1] at hcv hB ⊢
  clear hW1
  obtain ⟨bs, hL⟩ : ∃ bs, bs = t.data.toList := ⟨_, rfl⟩
  have hLn : bs.length = t.size := by rw [hL, Lib.size_eq]
  rw [← hL] at hB ⊢
  clear hL
  have hb1 : (1 : Int) ≤ (bs' : Int) := by omega
  have hb64 : (bs' : Int) ≤ 64 := by omega
  have hMl : M ≤ 18446744073709551615 := by
    have h2 : 2 ^ bs' ≤ 2 ^ 64 := Nat.pow_le_pow_right (by omega) h64
    have h3 : (2 : Nat) ^ 64 = 18446744073709551616 := by decide
    omega
  have hmv := hmv0 bs' M h64 hM
  have HM := hidP hM
  have HML := hidP hMl
  clear hM hMl
  obtain ⟨Mi, hMi⟩ : ∃ Mi : Int, Mi = (M : Int) := ⟨_, rfl⟩
  rw [← hMi] at hmv
  have HMI := hidP hMi
  have hM0 : 0 ≤ Mi := by omega
  clear hMi
  go_enter Tryd.func21, Tryd.ntmps21
  go_wp2
  clear hmv
  go_loop [12, 13, 101] (fun vu vn vi => ∃ (k acc : Nat) (a : Int), vu = .bool false ∧ vn = .int .u64 a ∧ vi = .int .i64 k ∧ k ≤ t.size ∧ Hid (a = (acc : Int) ∧ acc ≤ M ∧ pu M 0 bs = pu M acc (bs.drop k)))
    (fun _ _ vi => t.size - (intOf vi).toNat)
  case atStart => exact ⟨0, 0, 0, rfl, rfl, rfl, by omega, rfl, by omega, rfl⟩
  case round =>
    obtain ⟨k, acc, a, rfl, rfl, rfl, hk, hh⟩ := hrel
    obtain ⟨ha, hacc, hdec⟩ := hh.out
    clear hh
    have hml := HML.out
    have hmi := HMI.out
    have a0 : 0 ≤ a := by omega
    have a1 : a < 18446744073709551616 := by omega
    have m1 : Mi < 18446744073709551616 := by omega
    by_cases hkn : k < t.size
    · have hc := hB k hkn
      have hdrop : bs.drop k = bs[k]'(by omega) :: bs.drop (k + 1) := List.drop_eq_getElem_cons (by omega)
      have hget : bs.getD k 0 = bs[k]'(by omega) := by simp [List.getD, List.getElem?_eq_getElem (show k < bs.length by omega)]
      rw [hdrop] at hdec
      rw [hget] at hc
      generalize bs[k]'(by omega) = c at hc hdec
      have hc256 : c.toNat < 256 := c.toNat_lt
      clear hB hdrop hget
      by_cases hdig : 48 ≤ c.toNat ∧ c.toNat ≤ 57
      · by_cases hov : M < acc * 10 + (c.toNat - 48)
        · have hF : pu M acc (c :: bs.drop (k + 1)) = (M, 1) := by simp only [pu]; rw [if_neg (by simpa using hdig), if_pos hov]
          rw [hF] at hdec
          have R : Hid (PuPost M bs W1 (.returned (.tuple #[.int .u64 Mi, .iface 41 (.int .i64 1)])) W1) := ⟨by rw [hdec, hmi]; rfl, rfl⟩
          obtain ⟨hd0, hd1⟩ := hdig
          by_cases hcut : 1844674407370955162 ≤ acc
          · have icut : 1844674407370955162 ≤ a := by omega
            clear hcut hacc hF ha hml hmi hdec hov
            go_wp2
            go_ret2
            exact R.out
          · by_cases hov2 : 18446744073709551616 ≤ acc * 10 + (c.toNat - 48)
            · have icut : a < 1844674407370955162 := by omega
              have iov : 18446744073709551616 ≤ a * 10 + ((c.toNat : Int) - 48) := by omega
              have hwr : IntKind.u64.wrap (a * 10 + ((c.toNat : Int) - 48)) = a * 10 + ((c.toNat : Int) - 48) - 18446744073709551616 := by
                rw [IntKind.wrap_u64]
                omega
              clear hcut hacc hF hov hov2 ha hml hmi hdec
              go_wp2
              go_ret2
              exact R.out
            · have icut : a < 1844674407370955162 := by omega
              have iov : a * 10 + ((c.toNat : Int) - 48) < 18446744073709551616 := by omega
              have iov2 : Mi < a * 10 + ((c.toNat : Int) - 48) := by omega
              clear hcut hacc hF hov hov2 ha hml hmi hdec
              go_wp2
              go_ret2
              exact R.out
        · have hF : pu M acc (c :: bs.drop (k + 1)) = pu M (acc * 10 + (c.toNat - 48)) (bs.drop (k + 1)) := by simp only [pu]; rw [if_neg (by simpa using hdig), if_neg hov]
          obtain ⟨hd0, hd1⟩ := hdig
          have HN : Hid (a * 10 + ((c.toNat : Int) - 48) = ((acc * 10 + (c.toNat - 48) : Nat) : Int) ∧ acc * 10 + (c.toNat - 48) ≤ M ∧ pu M 0 bs = pu M (acc * 10 + (c.toNat - 48)) (bs.drop (k + 1))) := ⟨by omega, by omega, hdec.trans hF⟩
          have icut : a < 1844674407370955162 := by omega
          have iov : a * 10 + ((c.toNat : Int) - 48) < 18446744073709551616 := by omega
          have iov2 : a * 10 + ((c.toNat : Int) - 48) ≤ Mi := by omega
          clear hacc hF hov hdec ha hml hmi
          go_wp2
          refine ⟨⟨k + 1, acc * 10 + (c.toNat - 48), a * 10 + ((c.toNat : Int) - 48), rfl, (by first | rfl | (congr 1; omega)), (by first | rfl | (congr 1; omega)), by omega, HN⟩, by simp [intOf]; omega⟩
      · have hF : pu M acc (c :: bs.drop (k + 1)) = (0, 2) := by simp only [pu]; rw [if_pos hdig]
        rw [hF] at hdec
        have R : Hid (PuPost M bs W1 (.returned (.tuple #[.int .u64 0, .iface 41 (.int .i64 2)])) W1) := ⟨by rw [hdec]; rfl, rfl⟩
        clear hacc hF ha hml hmi hdec a0 a1 m1 hM0 hb1 hb64 hLn h1 h64 hcv hemp hne HM HML HMI
        obtain ⟨ci, hci⟩ : ∃ ci : Int, ci = (c.toNat : Int) := ⟨_, rfl⟩
        rw [← hci] at hc
        have ci0 : 0 ≤ ci := by omega
        have ci1 : ci ≤ 255 := by omega
        have hv0 := low_lo ci
        have hv1 := low_hi ci
        have hdig' : ¬ (48 ≤ ci ∧ ci ≤ 57) := by omega
        clear hdig hci hc256 c
        have hkk : k < 1048576 := by omega
        clear hk
        have hu0 := low_lo 95
        have hu1 := low_hi 95
        go_wp2_with (go_at_call 25; refine (lower_any _ _).mono ?_; rintro e w' ⟨rfl, rfl⟩)
        all_goals go_ret2
        all_goals exact R.out
    · have hkk : k = t.size := by omega
      subst hkk
      have hF : pu M acc (bs.drop t.size) = (acc, 0) := by rw [List.drop_eq_nil_of_le (by omega)]; rfl
      rw [hF] at hdec
      have R : Hid (PuPost M bs W1 (.returned (.tuple #[.int .u64 a, .nilIface])) W1) := ⟨by rw [hdec, ha]; rfl, rfl⟩
      clear hacc hF a0 a1 hml hmi hdec ha
      go_wp2
      go_ret2
      exact R.out
end Go.Proofs.Qxb6003994aDoor

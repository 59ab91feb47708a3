/-
  Seat b6003707a: the functions that only read two slices: their contracts.
-/
import Derived.Test.Qxb6003707aRows
import Derived.WalkKit
import Derived.WalkSpells
import Derived.WalkLawsBesides
namespace Go.Proofs.Qxb6003707a
open Go.RowKit

/-- The slice value at 'ao' holds these strings. -/
def SAt (w : World) (ao : Option Addr) (ss : List ByteArray) : Prop :=
  0 < ss.length → ∃ b off, ao = some ⟨b, off, none⟩ ∧ ∀ j, j < ss.length → w.cell? ⟨b, off + j, none⟩ = some (.string (ss.getD j ByteArray.empty))
/-- The slice value at 'ao' holds these numbers. -/
def IAt (w : World) (ao : Option Addr) (zs : List Int) : Prop :=
  0 < zs.length → ∃ b off, ao = some ⟨b, off, none⟩ ∧ ∀ j, j < zs.length → w.cell? ⟨b, off + j, none⟩ = some (.int .i64 (zs.getD j 0))

def tot (ss : List ByteArray) : Nat := (ss.map ByteArray.size).sum
def isum (zs : List Int) : Int := zs.sum
theorem tot_succ (ss : List ByteArray) (k : Nat) (h : k < ss.length) : tot (ss.take (k + 1)) = tot (ss.take k) + (ss.getD k ByteArray.empty).size := by
  unfold tot
  rw [List.take_succ_eq_append_getElem h, List.map_append, List.sum_append, List.getD, List.getElem?_eq_getElem h]
  simp only [List.map_cons, List.map_nil, List.sum_cons, List.sum_nil, Nat.add_zero, Option.getD_some]
theorem isum_succ (zs : List Int) (k : Nat) (h : k < zs.length) : isum (zs.take (k + 1)) = isum (zs.take k) + zs.getD k 0 := by
  unfold isum
  rw [List.take_succ_eq_append_getElem h, List.sum_append, List.getD, List.getElem?_eq_getElem h]
  simp
/-- Every string fits / every width fits, as plain Bools. -/
def fitsS (ss : List ByteArray) (m : Int) : Bool := ss.all fun s => decide ((s.size : Int) ≤ m)
def fitsI (zs : List Int) (m : Int) : Bool := zs.all fun z => decide (0 ≤ z ∧ z ≤ m)
theorem fitsS_no (ss : List ByteArray) (m : Int) (k : Nat) (h : k < ss.length) (hm : m < ((ss.getD k ByteArray.empty).size : Int)) : fitsS ss m = false := by
  rw [fitsS, List.all_eq_false]
  refine ⟨ss[k], List.getElem_mem h, ?_⟩
  rw [List.getD, List.getElem?_eq_getElem h] at hm
  simp only [Option.getD_some] at hm
  simp; omega
theorem fitsS_yes (ss : List ByteArray) (m : Int) (h : ∀ j, j < ss.length → ((ss.getD j ByteArray.empty).size : Int) ≤ m) : fitsS ss m = true := by
  rw [fitsS, List.all_eq_true]
  intro s hs
  obtain ⟨j, hj, rfl⟩ := List.getElem_of_mem hs
  have := h j hj
  rw [List.getD, List.getElem?_eq_getElem hj] at this
  simpa using this
theorem fitsI_no (zs : List Int) (m : Int) (k : Nat) (h : k < zs.length) (hm : zs.getD k 0 < 0 ∨ m < zs.getD k 0) : fitsI zs m = false := by
  rw [fitsI, List.all_eq_false]
  refine ⟨zs[k], List.getElem_mem h, ?_⟩
  rw [List.getD, List.getElem?_eq_getElem h] at hm
  simp only [Option.getD_some] at hm
  simp; omega
theorem fitsI_yes (zs : List Int) (m : Int) (h : ∀ j, j < zs.length → 0 ≤ zs.getD j 0 ∧ zs.getD j 0 ≤ m) : fitsI zs m = true := by
  rw [fitsI, List.all_eq_true]
  intro s hs
  obtain ⟨j, hj, rfl⟩ := List.getElem_of_mem hs
  have := h j hj
  rw [List.getD, List.getElem?_eq_getElem hj] at this
  simpa using this
theorem tot_le (ss : List ByteArray) (k : Nat) : tot (ss.take k) ≤ tot ss := by
  have h : tot ss = tot (ss.take k) + tot (ss.drop k) := by
    conv => lhs; rw [← List.take_append_drop k ss]
    simp only [tot, List.map_append, List.sum_append]
  omega
theorem ret_bool {a b : Bool} (h : a = b) : Ending.returned (.bool a) = .returned (.bool b) := by rw [h]
theorem ret_int {k : IntKind} {a b : Int} (h : a = b) : Ending.returned (.int k a) = .returned (.int k b) := by rw [h]

set_option maxHeartbeats 400000 in
theorem sbytes_any (ao : Option Addr) (cap : Nat) (ss : List ByteArray) (w : World) (hc : SAt w ao ss) (hl : ss.length ≤ 1048576) (ht : tot ss ≤ 1048576) :
    Calls Try.prog 13 #[.slice ao ss.length cap] w fun e w' => e = .returned (.int .i64 (16 * ss.length + tot ss)) ∧ w' = w := by
  go_enter Try.func13, Try.ntmps13
  go_wp2
  go_loop [3, 4] (fun n i => ∃ k : Nat, k ≤ ss.length ∧ i = .int .i64 k ∧ n = .int .i64 (16 * ss.length + tot (ss.take k))) (fun _ i => ss.length - (intOf i).toNat)
  case atStart => exact ⟨0, Nat.zero_le _, rfl, by simp [tot]⟩
  case round =>
    obtain ⟨k, hk, rfl, rfl⟩ := hrel
    have h1 := tot_le ss k
    by_cases hlt : k < ss.length
    · obtain ⟨b, off, rfl, hcell⟩ := hc (by omega)
      obtain ⟨s, hs⟩ : ∃ s, s = ss.getD k ByteArray.empty := ⟨_, rfl⟩
      have hck := hcell k hlt
      rw [← hs] at hck
      have HS : Hid (tot (ss.take (k + 1)) = tot (ss.take k) + s.size) := by rw [hs]; exact tot_succ ss k hlt
      have hs2 : tot (ss.take k) + s.size ≤ 1048576 := by have := HS.out; have := tot_le ss (k + 1); omega
      clear hs hcell hc
      go_wp2
      go_round
      case rel => exact ⟨k + 1, by omega, by go_num, by rw [HS.out]; go_num⟩
      case measure => simp [intOf]; omega
    · go_wp2
      go_ret
      exact ⟨ret_int (by rw [List.take_of_length_le (by omega)]), rfl⟩

set_option maxHeartbeats 400000 in
theorem lens_any (ao : Option Addr) (cap : Nat) (ss : List ByteArray) (m : Int) (w : World) (hc : SAt w ao ss) (hl : ss.length ≤ 1048576) :
    Calls Try.prog 14 #[.slice ao ss.length cap, .int .i64 m] w fun e w' => e = .returned (.bool (fitsS ss m)) ∧ w' = w := by
  go_enter Try.func14, Try.ntmps14
  go_wp2
  go_loop [5] (fun i => ∃ k : Nat, k ≤ ss.length ∧ i = .int .i64 k ∧ ∀ j, j < k → ((ss.getD j ByteArray.empty).size : Int) ≤ m) (fun i => ss.length - (intOf i).toNat)
  case atStart => exact ⟨0, Nat.zero_le _, rfl, fun j hj => by omega⟩
  case round =>
    obtain ⟨k, hk, rfl, hj⟩ := hrel
    have HJ : Hid (∀ j, j < k → ((ss.getD j ByteArray.empty).size : Int) ≤ m) := hj
    clear hj
    by_cases hlt : k < ss.length
    · obtain ⟨b, off, rfl, hcell⟩ := hc (by omega)
      obtain ⟨s, hs⟩ : ∃ s, s = ss.getD k ByteArray.empty := ⟨_, rfl⟩
      have hck := hcell k hlt
      rw [← hs] at hck
      have HS : Hid (s = ss.getD k ByteArray.empty) := hs
      clear hs hcell hc
      by_cases hm : m < (s.size : Int)
      · have HF : Hid (fitsS ss m = false) := fitsS_no ss m k hlt (by rw [← HS.out]; exact hm)
        go_wp2
        go_ret
        exact ⟨ret_bool HF.out.symm, rfl⟩
      · go_wp2
        go_round
        case rel => exact ⟨k + 1, by omega, by go_num, fun j hj => if e : j = k then by rw [e, ← HS.out]; omega else HJ.out j (by omega)⟩
        case measure => simp [intOf]; omega
    · have HF : Hid (fitsS ss m = true) := fitsS_yes ss m (fun j hj => HJ.out j (by omega))
      go_wp2
      go_ret
      exact ⟨ret_bool HF.out.symm, rfl⟩

set_option maxHeartbeats 400000 in
theorem widths_any (ao : Option Addr) (cap : Nat) (zs : List Int) (m : Int) (w : World) (hc : IAt w ao zs) (hl : zs.length ≤ 1048576) :
    Calls Try.prog 15 #[.slice ao zs.length cap, .int .i64 m] w fun e w' => e = .returned (.bool (fitsI zs m)) ∧ w' = w := by
  go_enter Try.func15, Try.ntmps15
  go_wp2
  go_loop [5] (fun i => ∃ k : Nat, k ≤ zs.length ∧ i = .int .i64 k ∧ ∀ j, j < k → 0 ≤ zs.getD j 0 ∧ zs.getD j 0 ≤ m) (fun i => zs.length - (intOf i).toNat)
  case atStart => exact ⟨0, Nat.zero_le _, rfl, fun j hj => by omega⟩
  case round =>
    obtain ⟨k, hk, rfl, hj⟩ := hrel
    have HJ : Hid (∀ j, j < k → 0 ≤ zs.getD j 0 ∧ zs.getD j 0 ≤ m) := hj
    clear hj
    by_cases hlt : k < zs.length
    · obtain ⟨b, off, rfl, hcell⟩ := hc (by omega)
      obtain ⟨s, hs⟩ : ∃ s, s = zs.getD k 0 := ⟨_, rfl⟩
      have hck := hcell k hlt
      rw [← hs] at hck
      have HS : Hid (s = zs.getD k 0) := hs
      clear hs hcell hc
      by_cases h0 : s < 0
      · have HF : Hid (fitsI zs m = false) := fitsI_no zs m k hlt (by rw [← HS.out]; exact .inl h0)
        go_wp2
        go_ret
        exact ⟨ret_bool HF.out.symm, rfl⟩
      by_cases hm : m < s
      · have HF : Hid (fitsI zs m = false) := fitsI_no zs m k hlt (by rw [← HS.out]; exact .inr hm)
        go_wp2
        go_ret
        exact ⟨ret_bool HF.out.symm, rfl⟩
      · go_wp2
        go_round
        case rel => exact ⟨k + 1, by omega, by go_num, fun j hj => if e : j = k then by rw [e, ← HS.out]; omega else HJ.out j (by omega)⟩
        case measure => simp [intOf]; omega
    · have HF : Hid (fitsI zs m = true) := fitsI_yes zs m (fun j hj => HJ.out j (by omega))
      go_wp2
      go_ret
      exact ⟨ret_bool HF.out.symm, rfl⟩

theorem isum_bd (zs : List Int) (hw : fitsI zs 65536 = true) (k : Nat) (hk : k ≤ zs.length) : 0 ≤ isum (zs.take k) ∧ isum (zs.take k) ≤ 65536 * k := by
  rw [fitsI, List.all_eq_true] at hw
  induction k with
  | zero => simp [isum]
  | succ k ih =>
    have h1 := ih (by omega)
    rw [isum_succ zs k (by omega)]
    have h2 := hw zs[k] (List.getElem_mem (by omega))
    rw [List.getD, List.getElem?_eq_getElem (by omega)]
    simp at h2 ⊢
    omega

set_option maxHeartbeats 400000 in
theorem sum_any (ao : Option Addr) (cap : Nat) (zs : List Int) (w : World) (hc : IAt w ao zs) (hl : zs.length ≤ 1048576) (hw : fitsI zs 65536 = true) :
    Calls Try.prog 20 #[.slice ao zs.length cap] w fun e w' => e = .returned (.int .i64 (isum zs)) ∧ w' = w := by
  have HW : Hid (fitsI zs 65536 = true) := hw
  clear hw
  go_enter Try.func20, Try.ntmps20
  go_wp2
  go_loop [3, 4] (fun n i => ∃ k : Nat, k ≤ zs.length ∧ i = .int .i64 k ∧ n = .int .i64 (isum (zs.take k))) (fun _ i => zs.length - (intOf i).toNat)
  case atStart => exact ⟨0, Nat.zero_le _, rfl, by simp [isum]⟩
  case round =>
    obtain ⟨k, hk, rfl, rfl⟩ := hrel
    by_cases hlt : k < zs.length
    · obtain ⟨b, off, rfl, hcell⟩ := hc (by omega)
      obtain ⟨s, hs⟩ : ∃ s, s = zs.getD k 0 := ⟨_, rfl⟩
      have hck := hcell k hlt
      rw [← hs] at hck
      have HS : Hid (isum (zs.take (k + 1)) = isum (zs.take k) + s) := by rw [hs]; exact isum_succ zs k hlt
      have h1 := isum_bd zs HW.out k hk
      have h2 : 0 ≤ isum (zs.take k) + s ∧ isum (zs.take k) + s ≤ 65536 * (k + 1) := by have := isum_bd zs HW.out (k + 1) hlt; rw [HS.out] at this; omega
      clear hs hcell hc
      go_wp2
      go_round
      case rel => exact ⟨k + 1, by omega, by go_num, by rw [HS.out]⟩
      case measure => simp [intOf]; omega
    · go_wp2
      go_ret
      exact ⟨ret_int (by rw [List.take_of_length_le (by omega)]), rfl⟩

/-- The bound on all lengths together, as a plain Bool. -/
def small (ss : List ByteArray) (m : Nat) (p : Nat) : Bool := decide (ss.length + tot ss + m + p ≤ 1048576)
theorem small_no {ss : List ByteArray} {m p : Nat} (h : ¬ ss.length + tot ss + m + p ≤ 1048576) : small ss m p = false := decide_eq_false h
theorem small_yes {ss : List ByteArray} {m p : Nat} (h : ss.length + tot ss + m + p ≤ 1048576) : small ss m p = true := decide_eq_true h

set_option maxHeartbeats 1000000 in
theorem bytes_any (ao bo : Option Addr) (cap lw capw : Nat) (ss : List ByteArray) (p : ByteArray) (w : World) (hc : SAt w ao ss) (hl : ss.length ≤ maxLen) (hl2 : lw ≤ maxLen) (hp : p.size ≤ maxLen) (hsz : ∀ s ∈ ss, s.size ≤ maxLen) :
    Calls Try.prog 12 #[.slice ao ss.length cap, .slice bo lw capw, .string p] w fun e w' => e = .returned (.bool (small ss lw p.size)) ∧ w' = w := by
  unfold maxLen at hl hl2 hp hsz
  by_cases h1 : 1048576 < ss.length
  · have HF : Hid (small ss lw p.size = false) := small_no (by omega)
    go_enter Try.func12, Try.ntmps12
    go_wp2
    go_ret
    exact ⟨ret_bool HF.out.symm, rfl⟩
  have HZ : Hid (∀ s ∈ ss, s.size ≤ 9223372036854775807) := hsz
  clear hsz
  go_enter Try.func12, Try.ntmps12
  go_wp2
  go_loop [7, 8] (fun n i => ∃ k : Nat, k ≤ ss.length ∧ i = .int .i64 k ∧ ss.length + tot (ss.take k) ≤ 1048576 ∧ n = .int .i64 (ss.length + tot (ss.take k))) (fun _ i => ss.length - (intOf i).toNat)
  case atStart => exact ⟨0, Nat.zero_le _, rfl, by simp [tot]; omega, by simp [tot]⟩
  case round =>
    obtain ⟨k, hk, rfl, hb, rfl⟩ := hrel
    by_cases hlt : k < ss.length
    · obtain ⟨b, off, rfl, hcell⟩ := hc (by omega)
      obtain ⟨s, hs⟩ : ∃ s, s = ss.getD k ByteArray.empty := ⟨_, rfl⟩
      have hck := hcell k hlt
      rw [← hs] at hck
      have HS : Hid (tot (ss.take (k + 1)) = tot (ss.take k) + s.size) := by rw [hs]; exact tot_succ ss k hlt
      have hm : s.size ≤ 9223372036854775807 := HZ.out s (by rw [hs, List.getD, List.getElem?_eq_getElem hlt]; exact List.getElem_mem hlt)
      have htl := tot_le ss (k + 1)
      rw [HS.out] at htl
      clear hs hcell hc
      by_cases h2 : 1048576 < s.size
      · have HF : Hid (small ss lw p.size = false) := small_no (by omega)
        go_wp2
        go_ret
        exact ⟨ret_bool HF.out.symm, rfl⟩
      by_cases h3 : 1048576 < ss.length + tot (ss.take k) + s.size
      · have HF : Hid (small ss lw p.size = false) := small_no (by omega)
        go_wp2
        go_ret
        exact ⟨ret_bool HF.out.symm, rfl⟩
      · go_wp2
        go_round
        case rel => exact ⟨k + 1, by omega, by go_num, by rw [HS.out]; omega, by rw [HS.out]; go_num⟩
        case measure => simp [intOf]; omega
    · have hkl : ss.take k = ss := List.take_of_length_le (by omega)
      rw [hkl] at hb ⊢
      clear hkl
      by_cases h4 : ss.length + tot ss + lw + p.size ≤ 1048576
      · have HF : Hid (small ss lw p.size = true) := small_yes h4
        go_wp2
        go_ret
        exact ⟨ret_bool HF.out.symm, rfl⟩
      · have HF : Hid (small ss lw p.size = false) := small_no h4
        by_cases h5 : 1048576 < lw
        · go_wp2
          go_ret
          exact ⟨ret_bool HF.out.symm, rfl⟩
        by_cases h6 : 1048576 < ss.length + tot ss + lw
        · go_wp2
          go_ret
          exact ⟨ret_bool HF.out.symm, rfl⟩
        by_cases h7 : 1048576 < p.size
        · go_wp2
          go_ret
          exact ⟨ret_bool HF.out.symm, rfl⟩
        · go_wp2
          go_ret
          exact ⟨ret_bool HF.out.symm, rfl⟩
end Go.Proofs.Qxb6003707a

/-
  Seat b6003965aF: leaveWhere.
-/
import Derived.Test.Qxb6003965aFmtNet
namespace Go.Proofs.Qxb6003965aFmt
open Go.RowKit Go.WideMaps Go.Maps

set_option maxHeartbeats 400000 in
theorem pred_any (v f : Int) (Fb : Nat) (w : World) (h : w.cell? ⟨Fb, 0, none⟩ = some (.int .i64 f)) :
    Calls Tryf.prog 27 #[.int .i64 v, .pointer (some ⟨Fb, 0, none⟩)] w fun e w' => e = .returned (.bool (decide (v < f))) ∧ w' = w := by
  go_enter Tryf.func27, Tryf.ntmps27
  go_wp2
  go_ret
  exact ⟨rfl, rfl⟩

/-- Two places change what they hold. -/
def swp (xs : List Int) (i j : Nat) : List Int := (xs.set i (xs.getD j 0)).set j (xs.getD i 0)
theorem swp_len (xs : List Int) (i j : Nat) : (swp xs i j).length = xs.length := by simp [swp]
theorem swp_get (xs : List Int) (i j q : Nat) (hi : i < xs.length) (hj : j < xs.length) : (swp xs i j).getD q 0 = if j = q then xs.getD i 0 else if i = q then xs.getD j 0 else xs.getD q 0 := by
  unfold swp
  rw [getD_set _ _ _ _ (by simpa using hj), getD_set _ _ _ _ hi]

theorem swp_perm (xs : List Int) (i j : Nat) (hi : i < xs.length) (hj : j < xs.length) : (swp xs i j).Perm xs := by
  have h := Array.swap_perm (xs := xs.toArray) (i := i) (j := j) (by simpa using hi) (by simpa using hj)
  have h2 := Array.perm_iff_toList_perm.1 h
  rw [Array.toList_swap] at h2
  simpa [swp, List.getD, hi, hj] using h2
theorem Net.swap {w : World} {Nb Rb Pb Mb : Nat} {A : Int} {n : Nat} {next : Int} {ps : List Int} {D : DataW Unit} {m : Nat} (h : Net w Nb Rb Pb Mb A n next ps D m) {i j : Nat} {x y : Int} (hx : x = ps.getD j 0) (hy : y = ps.getD i 0) :
    Net ((w.setCell ⟨Pb, i, none⟩ (.int .i64 x)).setCell ⟨Pb, j, none⟩ (.int .i64 y)).drew Nb Rb Pb Mb A n next (swp ps i j) D m := by
  have h1 := (h.setRow i x).setRow j y
  subst hx hy
  exact ⟨h1.box, h1.row, h1.len, h1.map.drew⟩

/-- What leaveWhere leaves: those that leave stand ahead. -/
def Left (w : World) (Nb Rb Pb Mb : Nat) (A : Int) (n : Nat) (next : Int) (ps : List Int) (D : DataW Unit) (m : Nat) (f : Int) (e : Ending) (w' : World) : Prop :=
  ∃ (k : Nat) (xs : List Int), e = .returned (.int .i64 (k : Int)) ∧ Net w' Nb Rb Pb Mb A n next xs D m ∧ xs.Perm ps ∧ k ≤ n ∧ (∀ j : Nat, j < k → xs.getD j 0 < f) ∧ (∀ j : Nat, k ≤ j → j < n → f ≤ xs.getD j 0) ∧ Frm (fun i => i = Pb) w w'

set_option maxHeartbeats 1000000 in
theorem leave_any (Nb Rb Pb Mb Fb : Nat) (A : Int) (n : Nat) (next : Int) (ps : List Int) (D : DataW Unit) (m : Nat) (f : Int) (w : World) (h : Net w Nb Rb Pb Mb A n next ps D m) (hF : w.cell? ⟨Fb, 0, none⟩ = some (.int .i64 f)) (hFb : Fb ≠ Pb) (hn : n ≤ 1048576) :
    Calls Tryf.prog 26 #[.pointer (some ⟨Nb, 0, none⟩), .func (.func 27) #[] #[.pointer (some ⟨Fb, 0, none⟩)]] w (Left w Nb Rb Pb Mb A n next ps D m f) := by
  obtain ⟨c0, c1, c2, c3, c4⟩ := h.cells
  have H := hidP h
  have HF := hidP hF
  clear h hF
  go_enter Tryf.func26, Tryf.ntmps26
  go_wp2
  clear c0 c1 c2 c3 c4
  go_loopw [5, 13] (fun q p wr => ∃ i k : Nat, i ≤ n ∧ k ≤ i ∧ p = .int .i64 i ∧ q = .int .i64 k ∧ ∃ xs, Net wr Nb Rb Pb Mb A n next xs D m ∧ xs.Perm ps ∧ (∀ j, j < k → xs.getD j 0 < f) ∧ (∀ j, k ≤ j → j < i → f ≤ xs.getD j 0) ∧ Frm (fun i => i = Pb) w wr) (fun _ p _ => n - (intOf p).toNat)
  case atStart => exact ⟨0, 0, Nat.zero_le _, Nat.zero_le _, rfl, rfl, ps, H.out, List.Perm.refl _, fun j hj => by omega, fun j _ hj => by omega, Frm.refl _ _⟩
  case round =>
    obtain ⟨i, k, hi, hki, rfl, rfl, xs, hN, hperm, hl, hg, hfr⟩ := hrel
    have hxl := hN.len
    by_cases hlt : i < n
    · obtain ⟨c0, c1, c2, c3, c4⟩ := hN.cells
      have di := hN.row.cell (j := i) (by omega)
      have dk := hN.row.cell (j := k) (by omega)
      have fi := hN.row.frozen i
      have fk := hN.row.frozen k
      have hF2 := hfr.cell HF.out hFb
      have hki' : (k : Int) ≤ (i : Int) := by omega
      have hil : (i : Int) < (n : Int) := by omega
      have hkl : (k : Int) < (n : Int) := by omega
      have hk0 : (0 : Int) ≤ (k : Int) := by omega
      obtain ⟨x, hx⟩ : ∃ x, x = xs.getD i 0 := ⟨_, rfl⟩
      obtain ⟨y, hy⟩ : ∃ y, y = xs.getD k 0 := ⟨_, rfl⟩
      rw [← hx] at di
      rw [← hy] at dk
      have HX := hidP hx
      have HY := hidP hy
      have HN := hidP hN
      have HP := hidP hperm
      have HL := hidP hl
      have HG := hidP hg
      have HFR := hidP hfr
      clear hx hy hN hperm hl hg hfr
      have H27 := hidP (pred_any x f Fb wr hF2)
      by_cases hxf : x < f
      · have hd : decide (x < f) = true := by simpa using hxf
        go_wp2_with (go_at_call 27; refine H27.out.mono ?_; rintro e w2 ⟨rfl, hw2⟩; obtain rfl : wr = w2 := hw2.symm)
        obtain ⟨z, dz⟩ : ∃ z, (wr.setCell ⟨Pb, k, none⟩ (.int .i64 x)).cell? ⟨Pb, i, none⟩ = some z := ⟨_, (HN.out.row.set k x).cell (j := i) (by rw [List.length_set]; omega)⟩
        go_region
        go_wp2
        go_roundw
        case rel =>
          have hN := HN.out
          have hpm := HP.out
          refine ⟨i + 1, k + 1, by omega, by omega, by go_num, by go_num, swp xs k i, hN.swap HX.out HY.out, (swp_perm xs k i (by omega) (by omega)).trans hpm, fun j hj => ?_, fun j h1 h2 => ?_, ((HFR.out.setCell (p := ⟨Pb, k, none⟩) (fun _ => rfl) _).setCell (p := ⟨Pb, i, none⟩) (fun _ => rfl) _).drew⟩
          · rw [swp_get xs k i j (by omega) (by omega)]
            by_cases e1 : i = j
            · subst e1
              rw [if_pos rfl]
              by_cases e2 : k = i
              · rw [e2, ← HX.out]; exact hxf
              · omega
            · rw [if_neg e1]
              by_cases e2 : k = j
              · rw [if_pos e2, ← HX.out]; exact hxf
              · rw [if_neg e2]; exact HL.out j (by omega)
          · rw [swp_get xs k i j (by omega) (by omega)]
            by_cases e1 : i = j
            · rw [if_pos e1]; exact HG.out k (Nat.le_refl _) (by omega)
            · rw [if_neg e1, if_neg (by omega)]; exact HG.out j (by omega) (by omega)
        case measure => simp [intOf]; omega
      · have hd : decide (x < f) = false := by simpa using hxf
        go_wp2_with (go_at_call 27; refine H27.out.mono ?_; rintro e w2 ⟨rfl, hw2⟩; obtain rfl : wr = w2 := hw2.symm)
        go_roundw
        case rel => exact ⟨i + 1, k, by omega, by omega, by go_num, rfl, xs, HN.out, HP.out, HL.out, fun j h1 h2 => by
          by_cases e : j = i
          · rw [e, ← HX.out]; omega
          · exact HG.out j h1 (by omega), HFR.out⟩
        case measure => simp [intOf]; omega
    · have hin : i = n := by omega
      subst hin
      have R : Hid (Left w Nb Rb Pb Mb A i next ps D m f (.returned (.int .i64 (k : Int))) wr) := ⟨k, xs, rfl, hN, hperm, hki, hl, hg, hfr⟩
      clear hN hperm hl hg hfr
      go_wp2
      go_ret
      exact R.out
end Go.Proofs.Qxb6003965aFmt

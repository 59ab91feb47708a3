/-
  Seat b6003707a: ofd.NewLayout: the walk.
-/
import Derived.Test.Qxb6003707aLay
namespace Go.Proofs.Qxb6003707a
open Go.RowKit Go.WideMaps Go.Maps

theorem hidP {p : Prop} (h : p) : Hid p := h
set_option maxHeartbeats 1000000 in
theorem lay_any (ao : Option Addr) (cap : Nat) (ss : List ByteArray) (zs : List Int) (w : World) (hc : FAt w ao ss zs) (hl : zs.length ≤ 1048576) (hw : fitsI zs 65536 = true) (hsz : ∀ s ∈ ss, s.size ≤ maxLen) :
    Calls Try.prog 32 #[.slice ao zs.length cap] w (Laid w ss zs) := by
  have HW : Hid (fitsI zs 65536 = true) := hw
  have HZ : Hid (∀ s ∈ ss, s.size ≤ maxLen) := hsz
  clear hw hsz
  obtain ⟨i0, hi, hz0, hz1, hz2⟩ := info_parts Try.info3
  have hmk := fun w => run_make (P := Try.prog) w 33 3 i0 (.int .i64 0) Try.underlying33 hi hz0 .i64 .i64 zs.length zs.length (by omega) (by omega) (by rw [hz2]; omega) (by omega)
  have hmm := mkMap zs.length
  rw [hz1] at hmk
  clear hi hz0 hz1 hz2
  go_enter Try.func32, Try.ntmps32
  go_wp2
  go_region
  all_goals go_wp2
  all_goals clear hmk hmm
  all_goals
    go_loopw [17] (fun i wr => ∃ k : Nat, k ≤ zs.length ∧ i = .int .i64 k ∧ LInv w ao cap ss zs wr k) (fun i _ => zs.length - (intOf i).toNat)
    case atStart => first | exact ⟨0, Nat.zero_le _, rfl, by simpa using LInv.start1 w ao cap ss zs hl⟩ | exact ⟨0, Nat.zero_le _, rfl, by simpa using LInv.start2 w ao cap ss zs hl⟩
    case round =>
      obtain ⟨k, hk, rfl, hinv⟩ := hrel
      by_cases hlt : k < zs.length
      · obtain ⟨b, off, rfl, hcell⟩ := hc (by omega)
        obtain ⟨c0, c1, c2, c3⟩ := hcell k hlt
        have hB : Below w.heap.size w wr := by obtain ⟨bs, bm, xs, D, hL, hS, hM, hbm, hD, hhas, hB⟩ := hinv; exact hB
        have g0 := (hB.cell (p := ⟨b, off + k * 4, none⟩) (block_lt_of_cell c0)).trans c0
        have g1 := (hB.cell (p := ⟨b, off + k * 4 + 1, none⟩) (block_lt_of_cell c1)).trans c1
        have g2 := (hB.cell (p := ⟨b, off + k * 4 + 2, none⟩) (block_lt_of_cell c2)).trans c2
        have g3 := (hB.cell (p := ⟨b, off + k * 4 + 3, none⟩) (block_lt_of_cell c3)).trans c3
        clear c0 c1 c2 c3 hcell hc hB
        obtain ⟨s, hs⟩ : ∃ s, s = ss.getD k ByteArray.empty := ⟨_, rfl⟩
        obtain ⟨z, hz⟩ : ∃ z, z = zs.getD k 0 := ⟨_, rfl⟩
        rw [← hs] at g0
        rw [← hz] at g2
        have HS : Hid (s = ss.getD k ByteArray.empty) := hs
        have HI : Hid (isum (zs.take k) + z = isum (zs.take (k + 1))) := by rw [hz]; exact (isum_succ zs k hlt).symm
        have hsl : s.size ≤ maxLen := by
          rw [hs]
          by_cases hks : k < ss.length
          · rw [List.getD, List.getElem?_eq_getElem hks]; exact HZ.out _ (List.getElem_mem hks)
          · rw [List.getD, List.getElem?_eq_none (by omega)]; exact Nat.zero_le _
        clear hs hz
        obtain ⟨bs, bm, xs, D, hD, hhas, hSt⟩ := hinv.begins s z
        have HH : Hid (∀ kl, Maps.has (D.put (.string s.data.toList) (.lit (.int .i64 (k : Int)))) kl = true ↔ ∃ j, j < k + 1 ∧ keyAt ss j = kl) := has_step hD hhas HS.out _
        have hD' := hD.put (.string s.data.toList) (.lit (.int .i64 (k : Int)))
        clear hinv hhas hD
        go_wp2_with fail
        clear g0 g1 g2 g3
        -- region 5
        generalize hW1 : wr.alloc (.cells #[.string s, .string ⟨#[65]⟩, .int .i64 z, .int .i64 0] 57) = W1 at hSt ⊢
        clear hW1
        obtain ⟨l1, l2, l3, f0, f2, fr3⟩ := hSt.cells
        have hxl : xs.length = zs.length := by simpa using hSt.hS.1
        have hdk := hSt.hS.cellAt k (by omega)
        obtain ⟨x0, hx0⟩ : ∃ x0, xs[k]? = some x0 := ⟨_, List.getElem?_eq_getElem (by omega)⟩
        rw [hx0] at hdk
        have hfk := hSt.hS.frozenAt k
        have hb1 := isum_bd zs HW.out k hk
        have hb2 := isum_bd zs HW.out (k + 1) hlt
        rw [← HI.out] at hb2
        obtain ⟨wd, hwd⟩ : ∃ wd, wd = isum (zs.take k) := ⟨_, rfl⟩
        have HSt : Hid (St w W1 (w.heap.size + 1 + 1) wr.heap.size bs bm (.slice (some ⟨b, off, none⟩) zs.length cap) zs.length xs D k wd s z) := by rw [hwd]; exact hSt
        rw [← hwd] at l3 hb1 hb2
        have HWD : Hid (wd = isum (zs.take k)) := hwd
        clear hSt hxl hx0 hwd
        go_region
        go_wp2_with fail
        -- region 6
        have hSt2 := HSt.out.store k (.int .i64 wd)
        generalize hW2 : (W1.setCell ⟨bs, k, none⟩ (.int .i64 wd)).drew = W2 at hSt2 ⊢
        clear l1 l2 l3 f0 f2 fr3 hdk hfk HSt hW2
        obtain ⟨l1, l2, l3, f0, f2, fr3⟩ := hSt2.cells
        have hSt2d : St w W2.drew (w.heap.size + 1 + 1) wr.heap.size bs bm (.slice (some ⟨b, off, none⟩) zs.length cap) zs.length (xs.set k (.int .i64 wd)) D k wd s z := ⟨hSt2.hL, hSt2.hF, hSt2.hS.drew, hSt2.hM.drew, hSt2.hB.drew, hSt2.lL, hSt2.lM⟩
        obtain ⟨W3, hrun, hSt3⟩ := hSt2d.put (by unfold maxLen; omega) hsl k (by omega)
        have HSt3 := hidP hSt3
        clear hSt2 hSt2d hSt3
        go_region
        go_wp2_with fail
        -- region 7
        clear hrun l1 l2 l3 f0 f2 fr3
        have hSt3 := HSt3.out
        obtain ⟨l1, l2, l3, f0, f2, fr3⟩ := hSt3.cells
        clear hSt3
        go_region
        go_wp2_with fail
        go_roundw
        case rel => exact ⟨k + 1, by omega, by go_num, HSt3.out.ends hD' HH.out (by rw [HWD.out]; exact HI.out)⟩
        case measure => simp [intOf]; omega
      · have hkl : k = zs.length := by omega
        subst hkl
        go_wp2
        go_ret
        exact hinv.done
end Go.Proofs.Qxb6003707a

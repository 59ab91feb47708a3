/-
  Seat b6003965aF: zzApply.
-/
import Derived.Test.Qxb6003965aFmtIRow
namespace Go.Proofs.Qxb6003965aFmt
open Go.RowKit

/-- A slice of int64 at whatever address. -/
def LAt (w : World) (vo : Option Addr) (zs : List Int) : Prop :=
  0 < zs.length → ∃ b off, vo = some ⟨b, off, none⟩ ∧ ∀ j, j < zs.length → w.cell? ⟨b, off + j, none⟩ = some (.int .i64 (zs.getD j 0))
/-- A slice of joins (two cells each). -/
def JAt (w : World) (jo : Option Addr) (js : List (Int × Int)) : Prop :=
  0 < js.length → ∃ b off, jo = some ⟨b, off, none⟩ ∧ ∀ j, j < js.length → w.cell? ⟨b, off + j * 2, none⟩ = some (.int .i64 (js.getD j (0, 0)).1) ∧ w.cell? ⟨b, off + j * 2 + 1, none⟩ = some (.int .i64 (js.getD j (0, 0)).2)

theorem consec_snoc (a : Int) (n : Nat) : consec a (n + 1) = consec a n ++ [a + (n : Int)] := by
  simp [consec, List.range_succ]

theorem box3 {W : World} {B : Nat} {a b c : Value} {t : TypeId} (h : W.heap[B]? = some (.cells #[a, b, c] t (0, 0))) :
    W.cell? ⟨B, 0, none⟩ = some a ∧ W.cell? ⟨B, 1, none⟩ = some b ∧ W.cell? ⟨B, 2, none⟩ = some c :=
  ⟨by rw [cell_of_row _ _ _ _ _ _ h]; rfl, by rw [cell_of_row _ _ _ _ _ _ h]; rfl, by rw [cell_of_row _ _ _ _ _ _ h]; rfl⟩

/-- What the loops of zzApply keep: the round's box, the row that is built, all that lay ahead. -/
structure ApInv (w : World) (rd : Array Value) (cap : Nat) (lo : Int) (m : Nat) (wr : World) : Prop where
  box : wr.heap[w.heap.size]? = some (.cells rd 43 (0, 0))
  row : IRow wr (w.heap.size + 1) cap (consec lo m)
  below : Below w.heap.size w wr

theorem ApInv.push {w wr w' : World} {rd : Array Value} {cap : Nat} {lo : Int} {m : Nat} (h : ApInv w rd cap lo m wr) {x : Int} (hx : x = lo + (m : Int)) {o : Obj}
    (hown : w'.ownsRow w.heap.size 2 1 (.slice (some ⟨w.heap.size + 1, 0, none⟩) (m + 1) cap) (m + 1) ((consec lo m).map (Value.int .i64) ++ [.int .i64 x])) (hg : (wr.alloc o).grownBy w' (some (w.heap.size + 1))) : ApInv w rd cap lo (m + 1) w' := by
  have e : (consec lo m).map (Value.int .i64) ++ [.int .i64 x] = (consec lo (m + 1)).map (Value.int .i64) := by rw [consec_snoc, hx]; simp
  rw [e] at hown
  have hsz := h.row.lt
  refine ⟨?_, (IRow.of_owns hown).1, ?_⟩
  · rw [hg.block w.heap.size (by simp; omega) (by simp)]
    rw [Below.heap_alloc _ _ _ (by omega)]; exact h.box
  · exact (h.below.alloc h.below.size o).grown hg (by simp; omega) (fun k e => by cases e; omega)

theorem ApInv.alloc {w wr : World} {rd : Array Value} {cap : Nat} {lo : Int} {m : Nat} (h : ApInv w rd cap lo m wr) (o : Obj) : ApInv w rd cap lo m (wr.alloc o) :=
  ⟨by rw [Below.heap_alloc _ _ _ (lt_of_block h.box)]; exact h.box, h.row.frm (S := fun _ => False) ((Frm.refl _ _).alloc o) id, h.below.alloc h.below.size o⟩
theorem cell_one_at {W : World} {g : Nat} (hg : g = W.heap.size) (v : Value) (t : TypeId) : ∀ j u, [v][j]? = some u → (W.alloc (.cells #[v] t)).cell? (Addr.add ⟨g, 0, none⟩ j) = some u := by
  subst hg; exact cell_one_new W v t

set_option maxHeartbeats 1000000 in
theorem apply_any (Pb pc : Nat) (lo : Int) (n c : Nat) (r : Int) (vo jo : Option Addr) (vc jc : Nat) (js : List (Int × Int)) (w : World) (hP : IRow w Pb pc (consec lo n)) (hV : LAt w vo (consec lo c)) (hJ : JAt w jo js) (hjl : js.length = c)
    (hjs : ∀ j, j < c → (js.getD j (0, 0)).1 = lo + (n : Int) + (j : Int)) (hcn : c ≤ n) (hn : n ≤ 1048576) :
    Calls Tryf.prog 13 #[.slice (some ⟨Pb, 0, none⟩) n pc, .agg #[.int .i64 r, .slice vo c vc, .slice jo c jc]] w fun e w' => e = .returned (.slice (some ⟨w.heap.size + 1, 0, none⟩) n (n + c)) ∧ IRow w' (w.heap.size + 1) (n + c) (consec (lo + (c : Int)) n) ∧ Below w.heap.size w w' := by
  obtain ⟨i0, hi, hz0, hz1, hz2⟩ := info_parts Tryf.info2
  have hxb := heap_alloc_new w (.cells #[.int .i64 r, .slice vo c vc, .slice jo c jc] 43)
  have HJS := hidP hjs
  have HJL := hidP hjl
  clear hjs hjl
  go_enter Tryf.func13, Tryf.ntmps13
  go_wp2_with (first
    | (at_make; refine wpList_make_own _ rfl _ _ 39 rfl w.heap.size 2 i0 (.int .i64 0) 1 Tryf.underlying39 hi hz0 hz1 .i64 .i64 _ (n + c) rfl rfl (by omega) (by rw [hz2]; omega) (by unfold maxLen; omega) (by simp) ?_; intro w1 hown hgrow)
    | go_in)
  have hsa : (w.alloc (.cells #[.int .i64 r, .slice vo c vc, .slice jo c jc] 43)).heap.size = w.heap.size + 1 := by simp
  rw [hsa] at hown
  have hA : ApInv w #[.int .i64 r, .slice vo c vc, .slice jo c jc] (n + c) (lo + (c : Int)) 0 w1 := by
    refine ⟨?_, (IRow.of_owns (zs := consec (lo + (c : Int)) 0) (by simpa [consec] using hown)).1, ?_⟩
    · rw [hgrow.block w.heap.size (by omega) (by simp)]; exact hxb
    · exact ((Below.refl w.heap.size w).alloc (Nat.le_refl _) _).grown hgrow (by omega) (fun k h => by cases h)
  clear hgrow hown hxb hsa hz0 hz2
  go_loopw [5, 6, 20] (fun o q p wr => ∃ k : Nat, k ≤ n ∧ p = .int .i64 k ∧ q = .int .i64 ((min k c : Nat) : Int) ∧ o = .slice (some ⟨w.heap.size + 1, 0, none⟩) (k - c) (n + c) ∧ ApInv w #[.int .i64 r, .slice vo c vc, .slice jo c jc] (n + c) (lo + (c : Int)) (k - c) wr) (fun _ _ p _ => n - (intOf p).toNat)
  case atStart => exact ⟨0, Nat.zero_le _, rfl, by simp, by simp, by simpa using hA⟩
  case round =>
    obtain ⟨k, hk, rfl, rfl, rfl, hA1⟩ := hrel
    clear hA
    obtain ⟨b0, b1, b2⟩ := box3 hA1.box
    by_cases hlt : k < n
    · have hpk := hP.cell (j := k) (by rw [consec_len]; omega)
      rw [consec_get lo n k hlt] at hpk
      have hpk' := (hA1.below.cell (p := ⟨Pb, k, none⟩) hP.lt).trans hpk
      clear hpk
      by_cases hkc : k < c
      · obtain ⟨vb, vof, rfl, hvc⟩ := hV (by rw [consec_len]; omega)
        have hv := hvc k (by rw [consec_len]; omega)
        rw [consec_get lo c k hkc] at hv
        have hv' := (hA1.below.cell (p := ⟨vb, vof + k, none⟩) (block_lt_of_cell hv)).trans hv
        have e1 : min k c = k := by omega
        have HA1 := hidP hA1
        have hd : decide ((k : Int) < (c : Int)) = true := by simp; omega
        have hb : (lo + (k : Int) == lo + (k : Int)) = true := by simp
        rw [e1]
        clear hv hvc hA1 hP hV hJ e1
        go_wp2
        go_roundw
        case rel => exact ⟨k + 1, by omega, by go_num, by rw [show min (k + 1) c = k + 1 by omega]; go_num, by rw [show k + 1 - c = k - c by omega], by rw [show k + 1 - c = k - c by omega]; exact HA1.out⟩
        case measure => simp [intOf]; omega
      · have e1 : min k c = c := by omega
        have HA1 := hidP hA1
        have hd : decide ((c : Int) < (c : Int)) = false := by simp
        have hown := hA1.row.owns w.heap.size (by omega)
        rw [consec_len] at hown
        rw [e1]
        have hszw := hA1.row.lt
        clear hA1 hP hV hJ e1
        go_wp2_with (first
          | (at_builtin; refine wpList_append_fits _ rfl _ _ 39 rfl w.heap.size 2 i0 1 Tryf.underlying39 hi hz1 (w.heap.size + 1) (k - c) (n + c) _ rfl (hown.alloc _) ⟨wr.heap.size, 0, none⟩ 1 1 [.int .i64 (lo + (k : Int))] rfl rfl (cell_one_new _ _ _) (ints_oneCell .i64 [lo + (k : Int)]) (by omega) ?_; intro w2 hown2 hgrow2)
          | go_in)
        have HP := hidP (HA1.out.push (x := lo + (k : Int)) (by omega) hown2 hgrow2)
        clear hown hown2 hgrow2
        go_wp2
        go_roundw
        case rel => exact ⟨k + 1, by omega, by go_num, by rw [show min (k + 1) c = c by omega], by rw [show k + 1 - c = k - c + 1 by omega], by rw [show k + 1 - c = k - c + 1 by omega]; exact HP.out⟩
        case measure => simp [intOf]; omega
    · have hkn : k = n := by omega
      subst hkn
      clear hlt
      rw [show min k c = c by omega]
      go_wp2_with fail
      go_loopw [5, 48] (fun o p wr => ∃ q : Nat, q ≤ c ∧ p = .int .i64 q ∧ o = .slice (some ⟨w.heap.size + 1, 0, none⟩) (k - c + q) (k + c) ∧ ApInv w #[.int .i64 r, .slice vo c vc, .slice jo c jc] (k + c) (lo + (c : Int)) (k - c + q) wr) (fun _ p _ => c - (intOf p).toNat)
      case atStart => exact ⟨0, Nat.zero_le _, rfl, rfl, hA1⟩
      case round =>
        clear hA1 b0 b1 b2
        obtain ⟨q, hq, rfl, rfl, hA1⟩ := hrel
        by_cases hlt : q < c
        · obtain ⟨jb, jof, rfl, hjc⟩ := hJ (by have := HJL.out; omega)
          obtain ⟨g1, g2⟩ := hjc q (by have := HJL.out; omega)
          rw [HJS.out q hlt] at g1
          have g1' := (hA1.below.cell (p := ⟨jb, jof + q * 2, none⟩) (block_lt_of_cell g1)).trans g1
          have g2' := (hA1.below.cell (p := ⟨jb, jof + q * 2 + 1, none⟩) (block_lt_of_cell g2)).trans g2
          have HA1 := hidP hA1
          have hown := hA1.row.owns w.heap.size (by omega)
          rw [consec_len] at hown
          generalize (js.getD q (0, 0)).2 = en at g2'
          clear hjc g1 g2 hA1 hP hV hJ
          have hsz1 : wr.heap.size + 1 = (wr.alloc (.cells #[.int .i64 (lo + (k : Int) + (q : Int)), .int .i64 en] 71)).heap.size := by simp
          have HC := hidP (cell_one_at hsz1 (.int .i64 (lo + (k : Int) + (q : Int))) 2)
          clear hsz1
          go_wp2_with (first
            | (at_builtin; refine wpList_append_fits _ rfl _ _ 39 rfl w.heap.size 2 i0 1 Tryf.underlying39 hi hz1 (w.heap.size + 1) (k - c + q) (k + c) _ rfl ((hown.alloc _).alloc _) ⟨wr.heap.size + 1, 0, none⟩ 1 1 [.int .i64 (lo + (k : Int) + (q : Int))] rfl rfl HC.out (ints_oneCell .i64 [lo + (k : Int) + (q : Int)]) (by omega) ?_; intro w2 hown2 hgrow2)
            | go_in)
          have HP := hidP ((HA1.out.alloc _).push (x := lo + (k : Int) + (q : Int)) (by omega) hown2 hgrow2)
          clear hown hown2 hgrow2
          go_wp2
          go_roundw
          case rel => exact ⟨q + 1, by omega, by go_num, rfl, HP.out⟩
          case measure => simp [intOf]; omega
        · have hqc : q = c := by omega
          subst hqc
          have e1 : k - q + q = k := by omega
          rw [e1] at hA1 ⊢
          have HA1 := hidP hA1
          clear hA1 e1
          go_wp2
          go_ret
          exact ⟨rfl, HA1.out.row, HA1.out.below⟩
end Go.Proofs.Qxb6003965aFmt

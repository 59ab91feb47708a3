/-
  Seat b6003707a: zzLayout, Width, Has.
-/
import Derived.Test.Qxb6003707aLayWalk
namespace Go.Proofs.Qxb6003707a
open Go.RowKit Go.WideMaps Go.Maps

theorem Try.info57 : (Try.prog.info? 57).map (fun i => (i.zero, i.size, i.bytes)) = some (some (.agg #[.string ByteArray.empty, .string ByteArray.empty, .int .i64 0, .int .i64 0]), 4, 48) := by kernel_rfl

/-- Below k the row's fields are these. -/
def Upto4 (ss : List ByteArray) (zs : List Int) (xs : List Value) (k : Nat) : Prop := ∀ j, j < k → xs[j * 4]? = some (.string (ss.getD j ByteArray.empty)) ∧ xs[j * 4 + 1]? = some (.string ⟨#[65]⟩) ∧ xs[j * 4 + 2]? = some (.int .i64 (zs.getD j 0)) ∧ xs[j * 4 + 3]? = some (.int .i64 0)
def set4 (xs : List Value) (k : Nat) (a b c d : Value) : List Value := (((xs.set (k * 4) a).set (k * 4 + 1) b).set (k * 4 + 2) c).set (k * 4 + 3) d
theorem Upto4.step {ss : List ByteArray} {zs : List Int} {xs : List Value} {k : Nat} (h : Upto4 ss zs xs k) (hk : (k + 1) * 4 ≤ xs.length) :
    Upto4 ss zs (set4 xs k (.string (ss.getD k ByteArray.empty)) (.string ⟨#[65]⟩) (.int .i64 (zs.getD k 0)) (.int .i64 0)) (k + 1) := by
  intro j hj
  unfold set4
  by_cases e : j = k
  · subst e
    refine ⟨?_, ?_, ?_, ?_⟩
    · rw [List.getElem?_set_ne (by omega), List.getElem?_set_ne (by omega), List.getElem?_set_ne (by omega), List.getElem?_set_self (by omega)]
    · rw [List.getElem?_set_ne (by omega), List.getElem?_set_ne (by omega), List.getElem?_set_self (by rw [List.length_set]; omega)]
    · rw [List.getElem?_set_ne (by omega), List.getElem?_set_self (by rw [List.length_set, List.length_set]; omega)]
    · rw [List.getElem?_set_self (by rw [List.length_set, List.length_set, List.length_set]; omega)]
  · obtain ⟨h0, h1, h2, h3⟩ := h j (by omega)
    have g : ∀ i, i ≠ k * 4 → i ≠ k * 4 + 1 → i ≠ k * 4 + 2 → i ≠ k * 4 + 3 → ∀ a b c d : Value, ((((xs.set (k * 4) a).set (k * 4 + 1) b).set (k * 4 + 2) c).set (k * 4 + 3) d)[i]? = xs[i]? := by
      intro i i0 i1 i2 i3 a b c d
      rw [List.getElem?_set_ne (fun e => i3 e.symm), List.getElem?_set_ne (fun e => i2 e.symm), List.getElem?_set_ne (fun e => i1 e.symm), List.getElem?_set_ne (fun e => i0 e.symm)]
    exact ⟨(g _ (by omega) (by omega) (by omega) (by omega) _ _ _ _).trans h0, (g _ (by omega) (by omega) (by omega) (by omega) _ _ _ _).trans h1, (g _ (by omega) (by omega) (by omega) (by omega) _ _ _ _).trans h2, (g _ (by omega) (by omega) (by omega) (by omega) _ _ _ _).trans h3⟩
theorem stored4 {W : World} {base n : Nat} {B : Nat} {xs : List Value} (h : W.ownsRow base 57 4 (.slice (some ⟨B, 0, none⟩) n n) n xs) (k : Nat) (a b c d : Value) :
    ((((W.setCell ⟨B, k * 4, none⟩ a).setCell ⟨B, k * 4 + 1, none⟩ b).setCell ⟨B, k * 4 + 2, none⟩ c).setCell ⟨B, k * 4 + 3, none⟩ d).ownsRow base 57 4 (.slice (some ⟨B, 0, none⟩) n n) n (set4 xs k a b c d) :=
  ((((h.stored (k * 4) a).1.stored (k * 4 + 1) b).1.stored (k * 4 + 2) c).1.stored (k * 4 + 3) d).1
theorem below4 {w W : World} {B : Nat} (h : Below w.heap.size w W) (hB : w.heap.size ≤ B) (k : Nat) (a b c d : Value) :
    Below w.heap.size w ((((W.setCell ⟨B, k * 4, none⟩ a).setCell ⟨B, k * 4 + 1, none⟩ b).setCell ⟨B, k * 4 + 2, none⟩ c).setCell ⟨B, k * 4 + 3, none⟩ d) :=
  (((h.setCell (p := ⟨B, k * 4, none⟩) hB a).setCell (p := ⟨B, k * 4 + 1, none⟩) hB b).setCell (p := ⟨B, k * 4 + 2, none⟩) hB c).setCell (p := ⟨B, k * 4 + 3, none⟩) hB d
theorem cell4 {W : World} {base n : Nat} {B : Nat} {xs : List Value} (h : W.ownsRow base 57 4 (.slice (some ⟨B, 0, none⟩) n n) n xs) (j : Nat) (hj : j < n * 4) : ∃ x, W.cell? ⟨B, j, none⟩ = some x := by
  have hl : xs.length = n * 4 := h.1
  have := h.cellAt j (by omega)
  rw [List.getElem?_eq_getElem (by omega)] at this
  exact ⟨_, this⟩

set_option maxHeartbeats 1000000 in
theorem mk_any (ao bo : Option Addr) (cap cap2 : Nat) (ss : List ByteArray) (zs : List Int) (w : World) (hc : SAt w ao ss) (hz : IAt w bo zs) (hlen : ss.length = zs.length) (hl : zs.length ≤ 1048576) (hw : fitsI zs 65536 = true) (hsz : ∀ s ∈ ss, s.size ≤ maxLen) :
    Calls Try.prog 18 #[.slice ao ss.length cap, .slice none 0 0, .slice bo zs.length cap2] w (Laid w ss zs) := by
  have HW : Hid (fitsI zs 65536 = true) := hw
  have HZ : Hid (∀ s ∈ ss, s.size ≤ maxLen) := hsz
  clear hw hsz
  rw [hlen]
  have HLEN := hidP hlen
  clear hlen
  obtain ⟨i0, hi, hz0, hz1, hz2⟩ := info_parts Try.info57
  go_enter Try.func18, Try.ntmps18
  go_wp2_with (first
      | (at_make; refine wpList_make_full _ rfl _ _ 54 rfl w.heap.size 57 i0 _ 4 Try.underlying54 hi hz0 hz1 .i64 .i64 _ _ zs.length rfl rfl rfl rfl (by rw [hz2]; omega) (by unfold maxLen; omega) (Nat.le_refl _) ?_; intro w1 hown hgrow)
      | go_in)
  have hB1 : Below w.heap.size w w1 := (Below.refl _ _).grown hgrow (Nat.le_refl _) (fun k h => by cases h)
  clear hgrow hi hz0 hz1 hz2
  go_loopw [8] (fun i wr => ∃ k : Nat, k ≤ zs.length ∧ i = .int .i64 k ∧ Below w.heap.size w wr ∧ ∃ xs, wr.ownsRow w.heap.size 57 4 (.slice (some ⟨w.heap.size, 0, none⟩) zs.length zs.length) zs.length xs ∧ Upto4 ss zs xs k) (fun i _ => zs.length - (intOf i).toNat)
  case atStart => exact ⟨0, Nat.zero_le _, rfl, hB1, _, hown, fun j hj => by omega⟩
  case round =>
    obtain ⟨k, hk, rfl, hb, xs, hown2, hup⟩ := hrel
    clear hown hB1
    by_cases hlt : k < zs.length
    · obtain ⟨b, off, rfl, hcell⟩ := hc (by have := HLEN.out; omega)
      obtain ⟨b2, off2, rfl, hcell2⟩ := hz (by omega)
      have hck := (hb.cell (p := ⟨b, off + k, none⟩) (block_lt_of_cell (hcell k (by have := HLEN.out; omega)))).trans (hcell k (by have := HLEN.out; omega))
      have hck2 := (hb.cell (p := ⟨b2, off2 + k, none⟩) (block_lt_of_cell (hcell2 k hlt))).trans (hcell2 k hlt)
      obtain ⟨s, hs⟩ : ∃ s, s = ss.getD k ByteArray.empty := ⟨_, rfl⟩
      obtain ⟨z, hzz⟩ : ∃ z, z = zs.getD k 0 := ⟨_, rfl⟩
      rw [← hs] at hck
      rw [← hzz] at hck2
      have R2 : Hid (Upto4 ss zs (set4 xs k (.string s) (.string ⟨#[65]⟩) (.int .i64 z) (.int .i64 0)) (k + 1)) := by
        rw [hs, hzz]; exact hup.step (by have hl : xs.length = zs.length * 4 := hown2.1; omega)
      have R1 := hidP (stored4 hown2 k (.string s) (.string ⟨#[65]⟩) (.int .i64 z) (.int .i64 0))
      have R3 := hidP (below4 hb (Nat.le_refl _) k (.string s) (.string ⟨#[65]⟩) (.int .i64 z) (.int .i64 0))
      obtain ⟨x0, d0⟩ := cell4 hown2 (k * 4) (by omega)
      obtain ⟨x1, d1⟩ := cell4 hown2 (k * 4 + 1) (by omega)
      obtain ⟨x2, d2⟩ := cell4 hown2 (k * 4 + 2) (by omega)
      obtain ⟨x3, d3⟩ := cell4 hown2 (k * 4 + 3) (by omega)
      have f0 := hown2.frozenAt (k * 4)
      have f1 := hown2.frozenAt (k * 4 + 1)
      have f2 := hown2.frozenAt (k * 4 + 2)
      have f3 := hown2.frozenAt (k * 4 + 3)
      clear hcell hcell2 hc hz hs hzz hup hown2 hb
      go_wp2
      go_roundw
      case rel => exact ⟨k + 1, by omega, by go_num, R3.out, _, R1.out, R2.out⟩
      case measure => simp [intOf]; omega
    · have hkl : k = zs.length := by omega
      subst hkl
      have hF : FAt wr (some ⟨w.heap.size, 0, none⟩) ss zs := by
        intro h0
        refine ⟨_, 0, rfl, fun j hj => ?_⟩
        obtain ⟨h0, h1, h2, h3⟩ := hup j hj
        have c0 := hown2.cellAt (j * 4) (by omega)
        have c1 := hown2.cellAt (j * 4 + 1) (by omega)
        have c2 := hown2.cellAt (j * 4 + 2) (by omega)
        have c3 := hown2.cellAt (j * 4 + 3) (by omega)
        simp only [Nat.zero_add]
        exact ⟨c0.trans h0, c1.trans h1, c2.trans h2, c3.trans h3⟩
      have HF := hidP (lay_any _ zs.length ss zs wr hF hl HW.out HZ.out)
      clear hF
      clear hup hown2 hc hz
      have HB := hidP hb
      clear hb
      go_wp2_with (go_at_call 32; refine HF.out.mono ?_; rintro e w2 ⟨L, bm, D, rfl, h1, h2, h3, h4, h5⟩)
      go_ret
      exact ⟨L, bm, D, rfl, h1, h2, h3, h4, HB.out.trans (h5.mono HB.out.size)⟩

/-- 'Width'. -/
theorem width_any (L : Nat) (x : Int) (w : World) (h : w.cell? ⟨L, 3, none⟩ = some (.int .i64 x)) :
    Calls Try.prog 19 #[.pointer (some ⟨L, 0, none⟩)] w fun e w' => e = .returned (.int .i64 x) ∧ w' = w := by
  go_enter Try.func19, Try.ntmps19
  go_wp2
  go_ret
  exact ⟨rfl, rfl⟩

/-- 'Has'. -/
theorem has_any (L bm n : Nat) (D : DataW Unit) (s : ByteArray) (w : World) (h : w.cell? ⟨L, 2, none⟩ = some (.map (some bm))) (hM : w.ownsMap Try.prog 9 (plainElem (H := Unit) Try.prog 3) bm n D) (hs : s.size ≤ maxLen) :
    Calls Try.prog 21 #[.pointer (some ⟨L, 0, none⟩), .string s] w fun e w' => e = .returned (.bool (Maps.has D (.string s.data.toList))) ∧ w' = w := by
  go_enter Try.func21, Try.ntmps21
  go_wp2_with (first
    | (at_lookup; refine wpList_lookup_own_ok_int _ rfl _ _ 59 rfl 9 3 .i64 law Try.underlying59 Try.underlying3 (zero3 _) bm n D rfl hM _ _ rfl (keyOf_string_mk Try.underlying9 hs) ?_; intro c hat hwc)
    | go_in)
  go_ret
  exact ⟨rfl, rfl⟩
end Go.Proofs.Qxb6003707a

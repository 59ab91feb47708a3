/-
  Seat b6003965aF: slices.Sorted(slices.Values(s)).
-/
import Derived.Test.Qxb6003965aFmtIRow
import Derived.Test.Qxb6003965aFmtApply
import Derived.Test.Qxb6003965aFmtRange
import Derived.Maps.AppendAt
namespace Go.Proofs.Qxb6003965aFmt
open Go.RowKit Go.Shelf

attribute [local go_sem] Oper.semAt_some

/-- Between two rounds of the collecting: k values have been gathered. -/
def ColAt (w : World) (zs : List Int) (k : Nat) (W : World) : Prop :=
  ∃ v, W.heap[w.heap.size]? = some (.cells #[v] 39 (0, 0)) ∧ W.ownsRow w.heap.size 2 1 v k ((zs.take k).map (Value.int .i64)) ∧ Below w.heap.size w W

theorem ColAt.frm {w W W' : World} {zs : List Int} {k l : Nat} (h : ColAt w zs k W) (hf : Frm (fun i => i = l) W W') (hl : ∃ r : Loop, W.heap[l]? = some (.loop r)) (hlw : w.heap.size < l) : ColAt w zs k W' := by
  obtain ⟨v, h1, h2, h3⟩ := h
  obtain ⟨r, hr⟩ := hl
  refine ⟨v, hf.obj h1 (by omega), ?_, h3.trans (hf.below h3.size (fun k hk e => by omega))⟩
  obtain ⟨e1, e2⟩ := h2
  refine ⟨e1, ?_⟩
  rcases e2 with e2 | ⟨g, cap, cur, e3, e4, e5, e6⟩
  · exact .inl e2
  · exact .inr ⟨g, cap, cur, e3, e4, hf.obj e5 (fun e => by rw [e, hr] at e5; cases e5), e6⟩

set_option maxRecDepth 100000 in
set_option maxHeartbeats 2000000 in
/-- slices.Values's closure, over the rounds of the collecting. -/
theorem values_iter (w : World) (n l D Vb b off cap : Nat) (hn : 1 ≤ n) (zs : List Int) (r : Loop) (hz : zs.length ≤ 1048576) (hVb : w.cell? ⟨Vb, 0, none⟩ = some (.slice (some ⟨b, off, none⟩) zs.length cap)) (hc : ∀ j, j < zs.length → w.cell? ⟨b, off + j, none⟩ = some (.int .i64 (zs[j]?.getD 0)))
    (hY : ∀ k W, ColAt w zs k W ∧ k < zs.length → LoopAt W l D r → YieldAt Fence.wide (n - 1) Tryf.prog l #[.int .i64 (zs[k]?.getD 0)] W fun e W' => e = .returned (.bool true) ∧ ColAt w zs (k + 1) W' ∧ LoopAt W' l D r)
    (W : World) (h0 : ColAt w zs 0 W) (hL : LoopAt W l D r) :
    CallsIn Fence.wide n Tryf.prog 59 #[.func (.yield l) #[] #[], .pointer (some ⟨Vb, 0, none⟩)] W fun e W' => (∃ v, e = .returned v) ∧ ColAt w zs zs.length W' ∧ LoopAt W' l D r := by
  have hV : W.cell? ⟨Vb, 0, none⟩ = some (.slice (some ⟨b, off, none⟩) zs.length cap) := by
    obtain ⟨v, h1, h2, h3⟩ := h0; exact (h3.cell (p := ⟨Vb, 0, none⟩) (block_lt_of_cell hVb)).trans hVb
  refine callsIn_of_wp Tryf.func59 rfl trivial ?_ rfl
  simp only [Tryf.ntmps59, List.size_toArray, List.length_cons, List.length_nil, Nat.reduceAdd, Nat.reduceSub, Array.replicate_succ, Array.replicate_zero, List.push_toArray, List.append_toArray, List.nil_append, List.cons_append]
  gi_wp2
  gi_loopw [7] (fun i wr => ∃ k : Nat, k ≤ zs.length ∧ i = .int .i64 k ∧ ColAt w zs k wr ∧ LoopAt wr l D r)
    (fun i _ => zs.length - (intOf i).toNat)
  case atStart => exact ⟨0, Nat.zero_le _, rfl, h0, hL⟩
  case round =>
    obtain ⟨k, hk, rfl, hJs, hLs⟩ := hrel
    by_cases hlt : k < zs.length
    · have hcx : wr.cell? ⟨b, off + k, none⟩ = some (.int .i64 (zs[k]?.getD 0)) := by
        obtain ⟨v, h1, h2, h3⟩ := hJs; exact (h3.cell (p := ⟨b, off + k, none⟩) (block_lt_of_cell (hc k hlt))).trans (hc k hlt)
      obtain ⟨fn, tmps, assign, body, hy, hR⟩ := hY k wr ⟨hJs, hlt⟩ hLs
      obtain ⟨x, hx⟩ : ∃ x, x = zs[k]?.getD 0 := ⟨_, rfl⟩
      rw [← hx] at hcx hy
      clear hJs hLs h0 hL hx
      gi_wp2
      refine hR.mono ?_
      rintro e W3 ⟨rfl, hJ3, hL3⟩
      gi_wp2
      go_roundw
      case rel => exact ⟨k + 1, by omega, by simp, hJ3, hL3⟩
      case measure => simp [intOf]; omega
    · obtain rfl : k = zs.length := by omega
      gi_wp2
      go_end0
      exact ⟨⟨_, rfl⟩, hJs, hLs⟩

theorem heapA' {w : World} {o : Obj} {g : Nat} {x : Obj} (h : w.heap[g]? = some x) : (w.alloc o).heap[g]? = some x := by
  rw [Below.heap_alloc _ _ _ (lt_of_block h)]; exact h

/-- Behind an append onto the boxed slice: the box is as it was; so is whatever is no row of numbers. -/
theorem col_kept {W w1 : World} {B k : Nat} {v : Value} {xs : List Value} {o : Obj} (h2 : W.ownsRow B 2 1 v k xs) (hg : (W.alloc o).grownBy w1 v.ownBlock) {i : Nat} {x : Obj} (hi : W.heap[i]? = some x) (hx : ∀ cur, x ≠ .cells cur 2 (0, 0)) : w1.heap[i]? = some x := by
  have hlt := lt_of_block hi
  rw [hg.block i (by simp; omega) ?_]
  · exact heapA' hi
  · intro e
    rcases h2.2 with ⟨e2, _⟩ | ⟨g, cap, cur, e3, e4, e5, _⟩
    · subst e2; simp [Value.ownBlock] at e
    · subst e3; simp [Value.ownBlock] at e; subst e; rw [hi] at e5; simp at e5; exact hx cur e5
theorem col_below {w W w1 : World} {k : Nat} {v : Value} {xs : List Value} {o : Obj} (h2 : W.ownsRow w.heap.size 2 1 v k xs) (h3 : Below w.heap.size w W) (hg : (W.alloc o).grownBy w1 v.ownBlock) : Below w.heap.size w w1 := by
  refine (h3.alloc h3.size o).grown hg (by have := h3.size; simp; omega) (fun j e => ?_)
  rcases h2.2 with ⟨e2, _⟩ | ⟨g, cap, cur, e3, e4, e5, _⟩
  · subst e2; simp [Value.ownBlock] at e
  · subst e3; simp [Value.ownBlock] at e; subst e; exact e4

/-- What the collecting leaves: the values in a row of its own. -/
def Collected (w : World) (zs : List Int) (e : Ending) (w' : World) : Prop :=
  ∃ g cap, e = .returned (.slice (some ⟨g, 0, none⟩) zs.length cap) ∧ IRow w' g cap zs ∧ w.heap.size ≤ g ∧ Below w.heap.size w w'

set_option maxRecDepth 100000 in
set_option maxHeartbeats 2000000 in
theorem appendseq_any (w : World) (Vb b off cap : Nat) (zs : List Int) (hz : zs.length ≤ 1048576) (hz1 : 0 < zs.length) (hVb : w.cell? ⟨Vb, 0, none⟩ = some (.slice (some ⟨b, off, none⟩) zs.length cap)) (hc : ∀ j, j < zs.length → w.cell? ⟨b, off + j, none⟩ = some (.int .i64 (zs[j]?.getD 0))) :
    Calls Tryf.prog 67 #[.slice none 0 0, .func (.func 59) #[] #[.pointer (some ⟨Vb, 0, none⟩)]] w (Collected w zs) := by
  refine (callsIn_wide (n := 4)).1 ?_
  obtain ⟨i0, hi, hi0, hi1, hi2⟩ := info_parts Tryf.info2
  refine callsIn_of_wp_marks Tryf.func67 rfl trivial ?_ rfl
  simp only [Tryf.ntmps67, List.size_toArray, List.length_cons, List.length_nil, Nat.reduceAdd, Nat.reduceSub, Array.replicate_succ, Array.replicate_zero, List.push_toArray, List.append_toArray, List.nil_append, List.cons_append]
  gi_wp2
  have e0 : (w.alloc (.cells #[.slice none 0 0] 39)).heap.size = w.heap.size + 1 := by simp
  have hx0 := heap_alloc_new w (.cells #[.slice none 0 0] 39)
  have h0 : ColAt w zs 0 (w.alloc (.cells #[.slice none 0 0] 39)) := ⟨_, hx0, by simpa using World.ownsRow_nil _ _ _ _, (Below.refl _ _).alloc (Nat.le_refl _) _⟩
  refine rangeFunc_mine (n := 4) (gf := 59) (lb := #[.pointer (some ⟨Vb, 0, none⟩)]) rfl (enters_of Tryf.func59 (by kernel_rfl) rfl) (fun k : Nat => #[.int .i64 (zs[k]?.getD 0)]) (fun _ => rfl) (fun k W => ColAt w zs k W ∧ k < zs.length) (fun k _ W' => ColAt w zs (k + 1) W') (fun W => ColAt w zs zs.length W) ?iter ?round ?done
  case iter =>
    intro r _ hL hY
    refine values_iter w 3 _ _ Vb b off cap (by omega) zs r hz hVb hc hY _ ?_ hL
    obtain ⟨v, h1, h2, h3⟩ := h0
    exact ⟨v, heapA' (heapA' h1), (h2.alloc _).alloc _, (h3.alloc h3.size _).alloc (by simp; omega) _⟩
  case round =>
    intro r k W hI hL
    obtain ⟨⟨v, h1, h2, h3⟩, hk⟩ := hI
    have hsnoc : (zs.take k).map (Value.int .i64) ++ [.int .i64 zs[k]] = (zs.take (k + 1)).map (Value.int .i64) := by
      rw [List.take_succ_eq_append_getElem hk, List.map_append]; rfl
    have HSN := hidP hsnoc
    clear hsnoc
    gi_wp2
    refine ⟨hL.1, ?_⟩
    generalize zs[k] = x at HSN ⊢
    have hC2 := (show ColAt w zs k W from ⟨v, h1, h2, h3⟩).frm (Frm.putObj W ((w.alloc (.cells #[.slice none 0 0] 39)).heap.size + 1) (.loop { r with state := .busy })) ⟨r, hL.1⟩ (by rw [e0]; omega)
    have hL2 : LoopAt (W.putObj ((w.alloc (.cells #[.slice none 0 0] 39)).heap.size + 1) (.loop { r with state := .busy })) ((w.alloc (.cells #[.slice none 0 0] 39)).heap.size + 1) (w.alloc (.cells #[.slice none 0 0] 39)).heap.size { r with state := .busy } :=
      ⟨World.putObj_heap_same (lt_of_block hL.1), (World.putObj_heap_other (by omega)).trans hL.2⟩
    rw [e0] at hC2 hL2 ⊢
    generalize W.putObj (w.heap.size + 1 + 1) (.loop { r with state := .busy }) = W2 at hC2 hL2 ⊢
    clear h1 h2 h3 v hL hx0 h0 e0 hVb hc
    obtain ⟨v, h1, h2, h3⟩ := hC2
    have hbc := cell_of_one h1
    have hbf := free_of_one h1
    have hsz := h3.size
    have HL2 := hidP hL2
    have H1 := hidP h1
    have H3 := hidP h3
    clear hL2 h1 h3
    gi_wp2_with (gi_at_builtin; refine wpListIn_append_own _ rfl _ _ 39 rfl w.heap.size 2 i0 (.int .i64 0) 1 8 Tryf.underlying39 hi hi0 hi1 hi2 rfl (by decide) _ _ _ rfl (h2.alloc _) ⟨W2.heap.size, 0, none⟩ 1 1 [.int .i64 x] rfl rfl (cell_one_new _ _ _) (by simp [Value.oneCell']) (by unfold maxLen; omega) (by omega) (by simp; omega) ?_; intro v' w1 hown' hgrow _; obtain ⟨g', cap', rfl⟩ := ownsRow_succ hown'; have b1 := col_kept h2 hgrow H1.out (by intro c e; simp at e); have hbc1 := cell_of_one b1; have hbf1 := free_of_one b1)
    have l1 := col_kept h2 hgrow HL2.out.1 (by intro c e; cases e)
    have d1 := col_kept h2 hgrow HL2.out.2 (by intro c e; cases e)
    rw [HSN.out] at hown'
    have l3 : (w1.setCell ⟨w.heap.size, 0, none⟩ (.slice (some ⟨g', 0, none⟩) (k + 1) cap')).heap[w.heap.size + 1 + 1]? = some (.loop { r with state := .busy }) := (heap_setCell_other _ _ _ _ (by simp; omega)).trans l1
    refine ⟨⟨l3, (heap_setCell_other _ _ _ _ (by simp)).trans d1⟩, ?_⟩
    have hne : (Value.slice (some ⟨g', 0, none⟩) (k + 1) cap').ownBlock ≠ some w.heap.size := by
      intro e
      simp [Value.ownBlock] at e
      rcases hown'.2 with ⟨e2, _⟩ | ⟨g, c, cur, e3, e4, e5, _⟩
      · cases e2
      · simp only [Value.slice.injEq, Option.some.injEq, Addr.mk.injEq, and_true, true_and] at e3
        rw [← e3.1, e, b1] at e5; simp at e5
    exact (show ColAt w zs (k + 1) _ from ⟨_, one_setCell b1, ownsRow_setCell_other hown' (a := ⟨w.heap.size, 0, none⟩) hne _, (col_below h2 H3.out hgrow).setCell (p := ⟨w.heap.size, 0, none⟩) (Nat.le_refl _) _⟩).frm (Frm.putObj _ _ _) ⟨_, l3⟩ (by omega)
  case done =>
    rintro r W W' hF hL hfr hD
    rw [e0] at hL hfr hD ⊢
    obtain ⟨v, h1, h2, h3⟩ := hF.frm hfr ⟨r, hL.1⟩ (by omega)
    rw [List.take_of_length_le (Nat.le_refl _)] at h2
    obtain ⟨m, hm⟩ : ∃ m, zs.length = m + 1 := ⟨zs.length - 1, by omega⟩
    obtain ⟨g, cap2, rfl⟩ : ∃ g cap2, v = .slice (some ⟨g, 0, none⟩) zs.length cap2 := by
      rw [hm] at h2 ⊢; exact ownsRow_succ h2
    have hbc := cell_of_one h1
    have hI := (IRow.of_owns h2).1
    have hgb : w.heap.size ≤ g := by
      rcases h2.2 with ⟨e2, _⟩ | ⟨g2, c, cur, e3, e4, _⟩
      · cases e2
      · simp only [Value.slice.injEq, Option.some.injEq, Addr.mk.injEq, and_true, true_and] at e3
        rw [e3.1]; exact e4
    have hgd : g ≠ w.heap.size + 1 := by
      intro e; obtain ⟨cur, e5, _⟩ := hI; rw [e, hD] at e5; cases e5
    have R : Hid (Collected w zs (.returned (.slice (some ⟨g, 0, none⟩) zs.length cap2)) (W'.putObj (w.heap.size + 1) (.deferred none))) :=
      ⟨g, cap2, rfl, hI.frm (Frm.putObj _ _ _) hgd, hgb, h3.trans ((Frm.putObj _ _ _).below h3.size (fun k hk e => by omega))⟩
    clear hF hL hfr hVb hc h0 hx0 h2 h1 h3 hI hm
    gi_wp2
    refine ⟨by simp, .inl ⟨_, _, rfl, run_takeDeferred hD, ?_⟩⟩
    refine ⟨.slice (some ⟨g, 0, none⟩) zs.length cap2, ?_, R.out⟩
    simp [results, Tryf.f67, go_sem]

/-- What the sorting leaves. -/
def Sorted (w : World) (zs : List Int) (e : Ending) (w' : World) : Prop :=
  ∃ g cap, e = .returned (.slice (some ⟨g, 0, none⟩) zs.length cap) ∧ IRow w' g cap (srt zs) ∧ w.heap.size ≤ g ∧ Below w.heap.size w w'
theorem srt_len (zs : List Int) : (srt zs).length = zs.length := List.length_mergeSort zs

set_option maxHeartbeats 400000 in
theorem collect_any (w : World) (Vb b off cap : Nat) (zs : List Int) (hz : zs.length ≤ 1048576) (hz1 : 0 < zs.length) (hVb : w.cell? ⟨Vb, 0, none⟩ = some (.slice (some ⟨b, off, none⟩) zs.length cap)) (hc : ∀ j, j < zs.length → w.cell? ⟨b, off + j, none⟩ = some (.int .i64 (zs[j]?.getD 0))) :
    Calls Tryf.prog 58 #[.func (.func 59) #[] #[.pointer (some ⟨Vb, 0, none⟩)]] w (Collected w zs) := by
  have H := hidP (appendseq_any w Vb b off cap zs hz hz1 hVb hc)
  clear hVb hc
  go_enter Tryf.func58, Tryf.ntmps58
  go_wp2_with (go_at_call 67; refine H.out.mono ?_; rintro e w1 ⟨g, cap2, rfl, h1, h2, h3⟩)
  go_ret
  exact ⟨g, cap2, rfl, h1, h2, h3⟩

set_option maxHeartbeats 400000 in
theorem sorted_any (w : World) (Vb b off cap : Nat) (zs : List Int) (hz : zs.length ≤ 1048576) (hz1 : 0 < zs.length) (hVb : w.cell? ⟨Vb, 0, none⟩ = some (.slice (some ⟨b, off, none⟩) zs.length cap)) (hc : ∀ j, j < zs.length → w.cell? ⟨b, off + j, none⟩ = some (.int .i64 (zs[j]?.getD 0))) :
    Calls Tryf.prog 42 #[.func (.func 59) #[] #[.pointer (some ⟨Vb, 0, none⟩)]] w (Sorted w zs) := by
  have H := hidP (collect_any w Vb b off cap zs hz hz1 hVb hc)
  clear hVb hc
  go_enter Tryf.func42, Tryf.ntmps42
  go_wp2_with fail
  refine H.out.mono ?_
  rintro e w1 ⟨g, cap2, rfl, h1, h2, h3⟩
  have H14 := hidP (sort_any g cap2 zs w1 h1 hz)
  clear h1
  go_wp2_with fail
  refine H14.out.mono ?_
  rintro e w2 ⟨rfl, h4, h5⟩
  have R : Hid (Sorted w zs (.returned (.slice (some ⟨g, 0, none⟩) zs.length cap2)) w2) := ⟨g, cap2, rfl, h4, h2, h3.trans (h5.below h3.size (fun k hk e => by omega))⟩
  clear h2 h3 h4 h5
  go_wp2
  go_ret
  exact R.out

theorem values_any (a : Option Addr) (len cap : Nat) (w : World) :
    Calls Tryf.prog 43 #[.slice a len cap] w fun e w' => e = .returned (.func (.func 59) #[] #[.pointer (some ⟨w.heap.size, 0, none⟩)]) ∧ w' = w.alloc (.cells #[.slice a len cap] 39) := by
  go_enter Tryf.func43, Tryf.ntmps43
  go_wp2
  go_ret
  exact ⟨rfl, rfl⟩
end Go.Proofs.Qxb6003965aFmt

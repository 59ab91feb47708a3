/-
  Seat b6003965aF: replace, where some leave.
-/
import Derived.Test.Qxb6003965aFmtRepl
import Derived.Deep.CutRange
namespace Go.Proofs.Qxb6003965aFmt
open Go.RowKit Go.WideMaps Go.Maps

theorem Tryf.info71 : (Tryf.prog.info? 71).map (fun i => (i.zero, i.size, i.bytes)) = some (some (.agg #[.int .i64 0, .int .i64 0]), 2, 16) := by kernel_rfl
theorem Rep.drewN {w0 wr : World} {Nb Rb Sb Pb Mb Rd Lb Lc : Nat} {A : Int} {n : Nat} {r : Int} {zs : List Int} {so : Option Addr} {cp : Nat} {scr : List Int} {nx : Int} {xs : List Int} {D : DataW Unit} {m : Nat} {vj : Value} {js : List (Int × Int)} {i : Nat} (h : Rep w0 Nb Rb Sb Pb Mb Rd Lb Lc A n r zs so cp scr wr nx xs D m vj js i) (k : Nat) : Rep w0 Nb Rb Sb Pb Mb Rd Lb Lc A n r zs so cp scr (wr.drewN k) nx xs D m vj js i :=
  h.turn (T := fun _ => False) ((Frm.refl _ _).drewN k) (fun _ _ => False.elim) id id (h.net.frm (S := fun _ => False) ((Frm.refl _ _).drewN k) id id id) h.box (ownsRow_frm (T := fun _ => False) h.row ((Frm.refl _ _).drewN k) (fun _ _ => id))
theorem nodes_snoc {js : List (Int × Int)} {t : Nat} {nx y v : Int} (hl : js.length = t) (hy : y = nx + (t : Int)) (h : ∀ j, j < t → (js.getD j (0, 0)).1 = nx + (j : Int)) : ∀ j, j < t + 1 → ((js ++ [(y, v)]).getD j (0, 0)).1 = nx + (j : Int) := by
  intro j hj
  rw [getD_append_one, hl]
  by_cases e : j < t
  · rw [if_pos e]; exact h j e
  · rw [if_neg e, if_pos (by omega)]
    have : j = t := by omega
    rw [this]; exact hy
theorem ownsRow_pos {w : World} {base size n : Nat} {e : TypeId} {v : Value} {xs : List Value} (h : w.ownsRow base e size v n xs) (hn : 0 < n) : ∃ g cap, v = .slice (some ⟨g, 0, none⟩) n cap := by
  rcases h.2 with ⟨_, h0⟩ | ⟨g, cap, _, hv, _⟩
  · omega
  · exact ⟨g, cap, hv⟩
theorem set_consec (nx : Int) (k : Nat) (xs : List Int) (y : Int) (hy : y = nx + (k : Int)) (hk : k < xs.length) : (consec nx k ++ xs.drop k).set k y = consec nx (k + 1) ++ xs.drop (k + 1) := by
  rw [consec_snoc, hy]
  have hl := consec_len nx k
  rw [List.set_append_right _ _ (by omega), hl, Nat.sub_self, List.drop_eq_getElem_cons hk, List.set_cons_zero, List.append_assoc]; rfl
theorem Rep.done {w wr W : World} {Nb Rb Sb Pb Mb Rd g cap2 gj capj : Nat} {A : Int} {n : Nat} {r : Int} {so : Option Addr} {cp : Nat} {scr : List Int} {nx : Int} {ps xs : List Int} {D : DataW Unit} {e k : Nat} {f : Int → Int} {js : List (Int × Int)} {i : Nat}
    (h : Rep w Nb Rb Sb Pb Mb Rd g cap2 A n r (srt (ps.take k)) so cp scr wr (nx + (k : Int)) (consec nx k ++ xs.drop k) D k (.slice (some ⟨gj, 0, none⟩) k capj) js i)
    (hjc : ∀ wz : World, wz.ownsRow w.heap.size 71 2 (.slice (some ⟨gj, 0, none⟩) k capj) k (jcells js) → ∀ j, j < k → wz.cell? ⟨gj, j * 2, none⟩ = some (.int .i64 (nx + (j : Int))) ∧ wz.cell? ⟨gj, j * 2 + 1, none⟩ = some (.int .i64 (js.getD j (0, 0)).2))
    (hjl : js.length = k) (hjs : ∀ j, j < k → (js.getD j (0, 0)).1 = nx + (j : Int)) (hg : Good A k n ps xs e f k) (F : Frm (fun j => j = w.heap.size) wr W) :
    Replaced w Nb Rb Sb Pb Mb A n nx ps r k so cp scr (.returned (.agg #[.int .i64 r, .slice (some ⟨g, 0, none⟩) k cap2, .slice (some ⟨gj, 0, none⟩) k capj])) W := by
  obtain ⟨l1, l2, l3, l4, l5⟩ := h.lts
  have hrow := h.row
  rw [hjl] at hrow
  have hrow2 := ownsRow_frm hrow F (fun g' e' e2 => by
    obtain ⟨_, cur, o2⟩ := ownsRow_own hrow e'
    exact ne_obj o2 h.res (by simp) e2)
  obtain ⟨curl, hl1, _⟩ := h.leave
  have hgl : g ≠ w.heap.size := by
    intro e2; rw [e2, h.res] at hl1; simp at hl1
  refine ⟨_, _, _, _, js, _, D, k, i, rfl, fun h0 => ⟨g, 0, rfl, fun j hj => ?_⟩, fun h0 => ⟨gj, 0, rfl, fun j hj => ?_⟩, hjl, hjs, fun a e2 => by cases e2; exact h.lb, fun a e2 => by cases e2; exact (ownsRow_own hrow rfl).1, h.net.frm F (by omega) (by omega) (by omega), (hg.perm').append_left _, h.src.frm F (by omega) (fun b off e2 h0 e3 => ?_), F.obj h.rand (by omega), h.frm.andThen F (fun j hj e2 => by omega)⟩
  · rw [Nat.zero_add]; exact (h.leave.frm F hgl).cell hj
  · obtain ⟨g1, g2⟩ := hjc W hrow2 j (by omega)
    rw [Nat.zero_add, hjs j (by omega)]
    exact ⟨g1, g2⟩
  · have := (h.apart b off e2 h0).2.2.2; omega
theorem wf64 {v : Int} (h0 : 0 ≤ v) (h1 : v ≤ 1125899907891201) : (Lit.int .i64 v).wf = true := by
  have e1 : IntKind.i64.min = -9223372036854775808 := by decide
  have e2 : IntKind.i64.max = 9223372036854775807 := by decide
  simp only [Lit.wf]
  simp
  omega
theorem zero3 (w : World) : (zeroValue 3).run Tryf.prog w = .ok (.int .i64 0) w := by kernel_rfl
theorem cells_two_at {W : World} {g : Nat} (hg : g = W.heap.size) (a b : Value) (t : TypeId) : ∀ j u, [a, b][j]? = some u → (W.alloc (.cells #[a, b] t)).cell? (Addr.add ⟨g, 0, none⟩ j) = some u := by
  subst hg
  intro j u h
  have hb := heap_alloc_new W (.cells #[a, b] t)
  have e : Addr.add ⟨W.heap.size, 0, none⟩ j = ⟨W.heap.size, j, none⟩ := by simp [Addr.add]; exact Eq.symm
  rw [e, cell_of_row _ _ _ _ _ _ hb]
  rw [← h]
  match j with
  | 0 => rfl
  | 1 => rfl
  | j + 2 => rfl

set_option maxRecDepth 100000 in
set_option maxHeartbeats 2000000 in
theorem replace_pos (Nb Rb Sb Pb Mb : Nat) (A : Int) (n : Nat) (nx : Int) (ps : List Int) (D : DataW Unit) (m : Nat) (r : Int) (c : Nat) (so : Option Addr) (cp : Nat) (scr : List Int) (i : Nat) (w : World) (h : Net w Nb Rb Pb Mb A n nx ps D m) (hs : Src w Sb so cp scr i) (hR : RandAt w Rb Sb)
    (hc : 0 < c) (hcn : c < n) (hn : n ≤ 1048576) (hA : 1 ≤ A) (hAc : (c : Int) ≤ A * ((n : Int) - (c : Int))) (hnd : ps.Nodup) (hid : ∀ x ∈ ps, 0 ≤ x ∧ x ≤ 1125899906842624) (hnx : 0 ≤ nx ∧ nx ≤ 1125899906842624) :
    Calls Tryf.prog 28 #[.pointer (some ⟨Nb, 0, none⟩), .int .i64 r, .int .i64 (c : Int)] w (Replaced w Nb Rb Sb Pb Mb A n nx ps r c so cp scr) := by
  have H41 := fun w => hidP (silent_any r w)
  have HS := hidP hs
  have HR := hidP hR
  have HA := hidP hAc
  have HD := hidP hnd
  have HI := hidP hid
  have H := hidP h
  clear h hs hR hAc hnd hid
  go_enter Tryf.func28, Tryf.ntmps28
  go_wp2_with fail
  refine (H41 _).out.mono ?_
  rintro e w1 ⟨rfl, h1, h2, h3⟩
  have e0 : (w.alloc (.cells #[.int .i64 0, .slice none 0 0, .slice none 0 0] 43)).heap.size = w.heap.size + 1 := by simp
  have hq := Below.obj h1 (by simp) (heap_alloc_new w (.cells #[.int .i64 0, .slice none 0 0, .slice none 0 0] 43))
  have HB := hidP (((Below.refl w.heap.size w).alloc (Nat.le_refl _) (.cells #[.int .i64 0, .slice none 0 0, .slice none 0 0] 43)).trans (h1.mono (by simp)))
  rw [e0] at h2 h3 ⊢
  clear h1 e0 H41
  -- the round's box
  have hq2 := heapA (o := .cells #[.int .i64 r, .slice (some ⟨w.heap.size + 1 + 1, 0, none⟩) 0 0, .slice (some ⟨w.heap.size + 1 + 1 + 1, 0, none⟩) 0 0] 43) hq
  have hj2 := heapA (o := .cells #[.int .i64 r, .slice (some ⟨w.heap.size + 1 + 1, 0, none⟩) 0 0, .slice (some ⟨w.heap.size + 1 + 1 + 1, 0, none⟩) 0 0] 43) h3
  have hr2 := heap_alloc_new w1 (.cells #[.int .i64 r, .slice (some ⟨w.heap.size + 1 + 1, 0, none⟩) 0 0, .slice (some ⟨w.heap.size + 1 + 1 + 1, 0, none⟩) 0 0] 43)
  have hn2 := H.out.frm (S := fun _ => False) ((Frm.new HB.out).alloc (.cells #[.int .i64 r, .slice (some ⟨w.heap.size + 1 + 1, 0, none⟩) 0 0, .slice (some ⟨w.heap.size + 1 + 1 + 1, 0, none⟩) 0 0] 43)) id id id
  have HB2 := hidP (HB.out.alloc (by omega) (.cells #[.int .i64 r, .slice (some ⟨w.heap.size + 1 + 1, 0, none⟩) 0 0, .slice (some ⟨w.heap.size + 1 + 1 + 1, 0, none⟩) 0 0] 43))
  have s2 : (w1.alloc (.cells #[.int .i64 r, .slice (some ⟨w.heap.size + 1 + 1, 0, none⟩) 0 0, .slice (some ⟨w.heap.size + 1 + 1 + 1, 0, none⟩) 0 0] 43)).heap.size = w1.heap.size + 1 := by simp
  obtain ⟨c0, c1, c2, c3, c4⟩ := hn2.cells
  rw [h2] at s2 hr2
  have HQ := hidP hq2
  have HJ := hidP hj2
  have HRD := hidP hr2
  have HN := hidP hn2
  clear hq hq2 hj2 hr2 hn2 h3 HB
  go_wp2_with fail
  generalize w1.alloc (.cells #[.int .i64 r, .slice (some ⟨w.heap.size + 1 + 1, 0, none⟩) 0 0, .slice (some ⟨w.heap.size + 1 + 1 + 1, 0, none⟩) 0 0] 43) = w2 at *
  clear c0 c1 c2 c3 c4 h2
  refine (values_any _ _ _ w2).mono ?_
  rintro e w3 ⟨rfl, hw3⟩
  have hpl := HN.out.len
  have hz : (ps.take c).length = c := by rw [List.length_take]; omega
  have H42 := sorted_any w3 w2.heap.size Pb 0 n (ps.take c) (by omega) (by omega) (by rw [hz, hw3]; exact cell_of_one (heap_alloc_new _ _)) (fun j hj => by
    rw [hz] at hj
    have h1 := ((HN.out.frm (S := fun _ => False) ((Frm.refl _ _).alloc (.cells #[.slice (some ⟨Pb, 0, none⟩) c n] 39)) id id id).row).cell (j := j) (by omega)
    rw [hw3, Nat.zero_add, h1, List.getD, List.getElem?_take_of_lt hj])
  rw [s2] at H42
  have H42' := hidP H42
  have HW3 := hidP hw3
  clear H42 hw3
  go_wp2_with fail
  refine H42'.out.mono ?_
  rintro e w4 ⟨g, cap2, rfl, h4, h5, h6⟩
  rw [hz]
  have hz2 : (srt (ps.take c)).length = c := by rw [srt_len]; exact hz
  have s3 : w3.heap.size = w.heap.size + 1 + 1 + 1 + 1 + 1 + 1 := by rw [HW3.out]; simp; omega
  have F4 : Frm (fun _ => False) w2 w4 := ((Frm.refl _ _).alloc (.cells #[.slice (some ⟨Pb, 0, none⟩) c n] 39)).trans (by rw [← HW3.out]; exact Frm.new h6)
  have hr4 := F4.obj HRD.out id
  have hq4 := F4.obj HQ.out id
  have hj4 := F4.obj HJ.out id
  have hn4 := HN.out.frm F4 id id id
  have hrb := heap_setCell_same w4 (w.heap.size + 1 + 1 + 1 + 1) 1 _ 43 (.slice (some ⟨g, 0, none⟩) c cap2) hr4
  have F5 : Frm (fun k => k = w.heap.size + 1 + 1 + 1 + 1) w4 (w4.setCell ⟨w.heap.size + 1 + 1 + 1 + 1, 1, none⟩ (.slice (some ⟨g, 0, none⟩) c cap2)) := (Frm.refl (fun k => k = w.heap.size + 1 + 1 + 1 + 1) _).setCell (p := ⟨w.heap.size + 1 + 1 + 1 + 1, 1, none⟩) (fun _ => rfl) _
  have l1 := lt_of_block H.out.box
  have l2 := H.out.row.lt
  obtain ⟨es, cl, hmb⟩ := map_block H.out.map
  have l3 := lt_of_block hmb
  have l4 := lt_of_block HS.out.box
  have l5 := lt_of_block HR.out
  have hn5 := hn4.frm F5 (by omega) (by omega) (by omega)
  have FF : Frm (fun _ => False) w (w4.setCell ⟨w.heap.size + 1 + 1 + 1 + 1, 1, none⟩ (.slice (some ⟨g, 0, none⟩) c cap2)) := ((Frm.new HB2.out).trans F4).andThen F5 (fun k hk e => by omega)
  have R : Hid (Rep w Nb Rb Sb Pb Mb (w.heap.size + 1 + 1 + 1 + 1) g cap2 A n r (srt (ps.take c)) so cp scr (w4.setCell ⟨w.heap.size + 1 + 1 + 1 + 1, 1, none⟩ (.slice (some ⟨g, 0, none⟩) c cap2)) nx ps D m (.slice (some ⟨w.heap.size + 1 + 1 + 1, 0, none⟩) 0 0) [] i) :=
    ⟨hn5, by rw [hz2]; exact hrb, ⟨rfl, .inr ⟨_, _, #[], rfl, by omega, F5.obj hj4 (by omega), Nat.le_refl _, by omega, rfl, rfl⟩⟩, h4.frm F5 (by omega), HS.out.frm FF id (fun _ _ _ _ => id), FF.obj HR.out id, H.out.apart HS.out, FF.mono (fun _ _ => False.elim), ⟨l1, l2, l3, l4, l5⟩, by omega, F5.obj hq4 (by omega), by omega⟩
  have q1 := (box3 hr4).2.1
  have f1 := frozen_of_row _ _ 1 _ _ hr4
  have c4 := R.out.net.cells.2.2.2.2
  clear hr4 hq4 hj4 hn4 hn5 hrb F5 FF hmb
  clear HW3 H42' HB2 F4 HQ HJ HRD HN h4 h5 h6
  obtain ⟨w6, hcl, hm6, hg6⟩ := run_clear R.out.net.map Tryf.underlying78 0
  have R6 := hidP (R.out.grown hm6 hg6)
  have d2 := R6.out.net.cells.2.2.1
  clear hm6 hg6
  go_wp2
  clear hcl d2 q1 f1 c4 R H HS HR s2 s3 l4 l5 hz es cl
  clear w1 w2 w3 w4
  go_loopw [8, 37] (fun p q wr => ∃ t e : Nat, t ≤ c ∧ p = .int .i64 e ∧ q = .int .i64 t ∧ ∃ xs D f vj js i, Rep w Nb Rb Sb Pb Mb (w.heap.size + 1 + 1 + 1 + 1) g cap2 A n r (srt (ps.take c)) so cp scr wr (nx + (t : Int)) xs D t vj js i ∧ js.length = t ∧ Good A c n ps xs e f t ∧ Counts D f ∧ ∀ j, j < t → (js.getD j (0, 0)).1 = nx + (j : Int)) (fun _ q _ => c - (intOf q).toNat)
  case atStart => exact ⟨0, n, by omega, rfl, rfl, ps, .map [], fun _ => 0, _, [], i, by simpa using R6.out, rfl, Good.start hpl HD.out (by omega) hA, Counts.start, fun j hj => by omega⟩
  case round =>
    obtain ⟨t, e, ht, rfl, rfl, xs, D, f, vj, js, i, hRep, hjl, hgood, hcnt, hjs⟩ := hrel
    by_cases hlt : t < c
    · have hce := hgood.room hlt HA.out (by omega)
      have hen := hgood.en
      have H44 := hidP (intn_any Rb Sb so cp scr i ((e : Int) - (c : Int)) wr hRep.src hRep.rand (by omega) (by omega))
      have c0 := hRep.net.cells.1
      have RP := hidP hRep
      have GD := hidP hgood
      have CT := hidP hcnt
      have JS := hidP hjs
      have JL := hidP hjl
      clear hRep hgood hcnt hjs hjl R6
      go_wp2_with fail
      refine H44.out.mono ?_
      rintro e' w1 ⟨x, i', rfl, hx0, hx1, hs1, hf1⟩
      have R1 := hidP (RP.out.drawn hf1 hs1)
      clear H44 hs1 hf1 RP c0
      obtain ⟨q, hq⟩ : ∃ q : Nat, (c : Int) + x = (q : Int) := ⟨c + x.toNat, by omega⟩
      have hq1 : c ≤ q := by omega
      have hq2 : q < e := by omega
      have hxl := R1.out.net.len
      obtain ⟨v, hv⟩ : ∃ v, v = xs.getD q 0 := ⟨_, rfl⟩
      have hvd := R1.out.net.row.cell (j := q) (by omega)
      rw [← hv] at hvd
      obtain ⟨c0, c1, c2, c3, c4⟩ := R1.out.net.cells
      obtain ⟨b0, b1, b2⟩ := box3 R1.out.box
      have HV := hidP hv
      obtain ⟨y, hy⟩ : ∃ y, y = nx + (t : Int) := ⟨_, rfl⟩
      rw [← hy] at c3 R1
      have hy0 : 0 ≤ y := by omega
      have hy1 : y ≤ 1125899907891200 := by omega
      have HY := hidP hy
      clear hv hy
      obtain ⟨i0, hi, hz0, hz1, hz2i⟩ := info_parts Tryf.info71
      have hsz := R1.out.frm.size
      have b3 := fun (o : Obj) => (box3 (heapA (o := o) R1.out.box)).2.2
      go_upto_region 11 with fail
      go_cut [37] from 37 to 120 (fun p wx => p = .int .i64 (t : Int) ∧ ∃ vj', Rep w Nb Rb Sb Pb Mb (w.heap.size + 1 + 1 + 1 + 1) g cap2 A n r (srt (ps.take c)) so cp scr wx y xs D t vj' (js ++ [(y, v)]) i')
      case first =>
        go_region_law (refine step_append_own rfl (.tmp 57) (.tmp 64) 41 rfl w.heap.size 71 i0 (.agg #[.int .i64 0, .int .i64 0]) 2 16 Tryf.underlying41 hi hz0 hz1 hz2i rfl (by decide) vj t (jcells js) (by simp [Act.eval]) (by rw [← JL.out]; exact (R1.out.drew.alloc _).row) ⟨w1.heap.size, 0, none⟩ 1 1 [.int .i64 y, .int .i64 v] (by simp [Act.eval]) rfl (cells_two_at (by simp) _ _ _) (by simp [Value.oneCell']) (by unfold maxLen; omega) (by omega) (by simp; omega) ?_; intro v' w2 hown' hgrow; obtain ⟨g', cap', rfl⟩ := ownsRow_succ hown'; obtain ⟨m1, m2⟩ := R1.out.drew.mid hgrow; have m3 := (box3 m1).2.2; have m4 := frozen_of_row _ _ 2 _ _ m1)
        all_goals
          have R2 := R1.out.drew.push hgrow (by rw [JL.out]; exact hown')
          rw [JL.out] at R2
          go_wp2
          go_meet
          exact ⟨rfl, _, R2⟩
      case rest =>
        obtain ⟨rfl, vj', hR2⟩ := hcut
        clear hvd c0 c1 c2 c4 b0 b1 b2 c3 b3 R1 hi hz0 hz1 hz2i hsz
        have hvm : v ∈ ps := by rw [HV.out]; exact List.mem_of_mem_drop (GD.out.mem hq1 (by omega))
        have hvb := HI.out v hvm
        have hwv : (Lit.int .i64 v).wf = true := wf64 hvb.1 (by omega)
        obtain ⟨c0, c1, c2, c3, c4⟩ := hR2.net.cells
        have f3 := frozen_of_row _ _ 3 _ _ hR2.net.box
        have R3 := hidP (hR2.next (y + 1))
        obtain ⟨cv, hl3, hat, _⟩ := R3.out.net.map.lookup_int (int_keyed Tryf.underlying2) Tryf.underlying78 Tryf.underlying3 (zero3 _) (keyOf_int_mk Tryf.underlying2 hwv)
        have hcv : cv = f v := by
          rw [CT.out v] at hat; simpa using hat.symm
        have hcv0 : 0 ≤ cv := by rw [hcv]; exact GD.out.nn v
        have hcv1 : cv ≤ (t : Int) := by rw [hcv, HV.out]; exact GD.out.count_le hq1 (by omega)
        obtain ⟨w4, hu3, hown4, hgrow4⟩ := R3.out.net.map.update (int_keyed Tryf.underlying2) Tryf.underlying78 (by unfold maxLen; omega) (keyOf_int_mk Tryf.underlying2 hwv) (plainElem_int Tryf.underlying3 (a := cv + 1) (wf64 (by omega) (by omega)))
        have hct := CT.out.put R3.out.net.map.isMap v (cv + 1)
        have R4 := hidP (R3.out.grown hown4 hgrow4)
        have hl4 : ∀ k, Sem.run Tryf.prog (Instr.lookup 78 (.map (some Mb)) (.int .i64 v) false) (w4.drewN k) = .ok (.int .i64 (cv + 1)) (w4.drewN k) := by
          intro k
          obtain ⟨cw, h1, h2, _⟩ := (show (w4.drewN k).ownsMap Tryf.prog 2 (plainElem (H := Unit) Tryf.prog 3) Mb (t + 1) (D.put (.int .i64 v) (.lit (.int .i64 (cv + 1)))) from hown4).lookup_int (int_keyed Tryf.underlying2) Tryf.underlying78 Tryf.underlying3 (zero3 _) (keyOf_int_mk Tryf.underlying2 hwv)
          obtain rfl : cw = cv + 1 := by
            rw [hct v] at h2; simpa using h2.symm
          exact h1
        have HC := hidP hcv
        have HCT := hidP hct
        obtain ⟨d0, d1, d2, d3, d4⟩ := R4.out.net.cells
        clear hat hcv hR2 hvm hwv hct hown4 hgrow4 CT
        by_cases hcA : cv + 1 = A
        · have hb : (cv + 1 == A) = true := by simpa using hcA
          have HCA := hidP hcA
          clear hcA
          go_wp2
          go_quiet (fail)
          have R5 := hidP (R4.out.drewN nq)
          clear hl3 hu3 hl4 R4 R3 d0 d1 d2 d3 d4 c0 c1 c2 c3 c4 f3
          generalize w4.drewN nq = w5 at R5 ⊢
          obtain ⟨e1, he1⟩ : ∃ e1 : Nat, (e : Int) - 1 = (e1 : Int) := ⟨e - 1, by omega⟩
          have he2 : e1 = e - 1 := by omega
          obtain ⟨z, hz⟩ : ∃ z, z = xs.getD e1 0 := ⟨_, rfl⟩
          have dz := R5.out.net.row.cell (j := e1) (by omega)
          have dq := R5.out.net.row.cell (j := q) (by omega)
          rw [← hz] at dz
          rw [← HV.out] at dq
          have fz := R5.out.net.row.frozen e1
          have fq := R5.out.net.row.frozen q
          have d2 := R5.out.net.cells.2.2.1
          have HZ := hidP hz
          have HE := hidP he2
          obtain ⟨z2, dz2⟩ : ∃ z2, (w5.setCell ⟨Pb, q, none⟩ (.int .i64 z)).cell? ⟨Pb, e1, none⟩ = some z2 := ⟨_, (R5.out.net.row.set q z).cell (j := e1) (by rw [List.length_set]; omega)⟩
          have hq3 : (q : Int) < (n : Int) := by omega
          have he3 : (e1 : Int) < (n : Int) := by omega
          clear hz he2
          go_wp2
          go_region
          go_wp2
          go_roundw
          case rel =>
            have R6 := R5.out.swap HZ.out HV.out
            have e9 : y + 1 = nx + ((t + 1 : Nat) : Int) := by have := HY.out; omega
            rw [e9] at R6
            have hc9 := HC.out
            subst hc9
            have he9 := HE.out
            subst he9
            exact ⟨t + 1, e - 1, by omega, rfl, by go_num, swp xs q (e - 1), _, _, vj', js ++ [(y, v)], i', R6, by rw [List.length_append, JL.out]; rfl, GD.out.move hq1 hq2 HV.out HCA.out, HCT.out, nodes_snoc JL.out HY.out JS.out⟩
          case measure => simp [intOf]; omega
        · have hb : (cv + 1 == A) = false := by simpa using hcA
          have HCA := hidP hcA
          clear hcA
          go_wp2
          go_quiet (fail)
          go_wp2
          go_roundw
          case rel =>
            have R6 := R4.out.drewN nq
            have e9 : y + 1 = nx + ((t + 1 : Nat) : Int) := by have := HY.out; omega
            rw [e9] at R6
            have hc9 := HC.out
            subst hc9
            exact ⟨t + 1, e, by omega, rfl, by go_num, xs, _, _, vj', js ++ [(y, v)], i', R6, by rw [List.length_append, JL.out]; rfl, GD.out.keep hq1 hq2 HV.out HCA.out, HCT.out, nodes_snoc JL.out HY.out JS.out⟩
          case measure => simp [intOf]; omega
    · obtain rfl : t = c := by omega
      clear hlt
      have b2 := (box3 hRep.box).2.2
      have hown := hRep.row
      rw [hjl] at hown
      obtain ⟨gj, capj, hvj⟩ : ∃ gj capj, vj = .slice (some ⟨gj, 0, none⟩) t capj := ownsRow_pos hown hc
      subst hvj
      have hjc : ∀ wz : World, wz.ownsRow w.heap.size 71 2 (.slice (some ⟨gj, 0, none⟩) t capj) t (jcells js) → ∀ j, j < t → wz.cell? ⟨gj, j * 2, none⟩ = some (.int .i64 (nx + (j : Int))) ∧ wz.cell? ⟨gj, j * 2 + 1, none⟩ = some (.int .i64 (js.getD j (0, 0)).2) := by
        intro wz hz j hj
        obtain ⟨g1, g2⟩ := jcells_get js j (by omega)
        rw [hjs j hj] at g1
        rcases hz.2 with ⟨h1, _⟩ | ⟨g', cap', cur, h1, h2, h3, h4, h5, h6, h7⟩
        · cases h1
        · simp only [Value.slice.injEq, Option.some.injEq, Addr.mk.injEq, and_true, true_and] at h1
          obtain ⟨rfl, rfl⟩ := h1
          have hl := jcells_len js
          constructor
          · rw [cell_of_row _ _ _ _ _ _ h3, ← g1, ← h7, List.getElem?_take_of_lt (by omega), Array.getElem?_toList]
          · rw [cell_of_row _ _ _ _ _ _ h3, ← g2, ← h7, List.getElem?_take_of_lt (by omega), Array.getElem?_toList]
      have HJC := hidP hjc
      have RP := hidP hRep
      have GD := hidP hgood
      have JL := hidP hjl
      have JS := hidP hjs
      clear hjc hRep hgood hjl hjs hcnt hown ht R6
      go_wp2_with fail
      clear b2
      go_loopw [124] (fun p wq => ∃ k : Nat, k ≤ t ∧ p = .int .i64 k ∧ Rep w Nb Rb Sb Pb Mb (w.heap.size + 1 + 1 + 1 + 1) g cap2 A n r (srt (ps.take t)) so cp scr wq (nx + (t : Int)) (consec nx k ++ xs.drop k) D t (.slice (some ⟨gj, 0, none⟩) t capj) js i) (fun p _ => t - (intOf p).toNat)
      case atStart => exact ⟨0, Nat.zero_le _, rfl, by simpa [consec] using RP.out⟩
      case round =>
        clear RP
        obtain ⟨k, hk, rfl, hRep⟩ := hrel
        by_cases hlt : k < t
        · have hrow := hRep.row
          rw [JL.out] at hrow
          obtain ⟨g1, g2⟩ := HJC.out wr hrow k hlt
          obtain ⟨en, hen⟩ : ∃ en, en = (js.getD k (0, 0)).2 := ⟨_, rfl⟩
          rw [← hen] at g2
          obtain ⟨y, hy⟩ : ∃ y, y = nx + (k : Int) := ⟨_, rfl⟩
          rw [← hy] at g1
          have HY := hidP hy
          have RP := hidP hRep
          have RA := hidP (hRep.alloc (.cells #[.int .i64 y, .int .i64 en] 71))
          have hbx := heap_alloc_new wr (.cells #[.int .i64 y, .int .i64 en] 71)
          have x0 : (wr.alloc (.cells #[.int .i64 y, .int .i64 en] 71)).cell? ⟨wr.heap.size, 0, none⟩ = some (.int .i64 y) := by rw [cell_of_row _ _ _ _ _ _ hbx]; rfl
          have d2 := RA.out.net.cells.2.2.1
          have dk := RA.out.net.row.cell (j := k) (by rw [RA.out.net.len]; omega)
          have fk := RA.out.net.row.frozen k
          clear hrow hen hy hRep hbx
          go_wp2
          generalize wr.alloc (.cells #[.int .i64 y, .int .i64 en] 71) = wa at *
          go_region
          go_wp2
          go_roundw
          case rel =>
            have R2 := (RA.out.setRow k y).drew
            refine ⟨k + 1, by omega, by go_num, ?_⟩
            have e9 : (consec nx k ++ xs.drop k).set k y = consec nx (k + 1) ++ xs.drop (k + 1) := set_consec nx k xs y HY.out (by have := GD.out.len; omega)
            rw [e9] at R2
            exact R2
          case measure => simp [intOf]; omega
        · obtain rfl : k = t := by omega
          obtain ⟨b0, b1, b2⟩ := box3 hRep.box
          rw [hz2] at b1
          obtain ⟨q0, q1, q2⟩ := box3 hRep.res
          have fq := fun j => frozen_of_row _ _ j _ _ hRep.res
          have RP := hidP hRep
          clear hRep hlt
          go_wp2
          have hres := store3 (.int .i64 r) (.slice (some ⟨g, 0, none⟩) k cap2) (.slice (some ⟨gj, 0, none⟩) k capj) RP.out.res
          have F := Frm.store3 (S := fun j => j = w.heap.size) (.int .i64 r) (.slice (some ⟨g, 0, none⟩) k cap2) (.slice (some ⟨gj, 0, none⟩) k capj) (Frm.refl (fun j => j = w.heap.size) wr) (B := w.heap.size) (fun _ => rfl)
          have fin : Hid (Replaced w Nb Rb Sb Pb Mb A n nx ps r k so cp scr (.returned (.agg #[.int .i64 r, .slice (some ⟨g, 0, none⟩) k cap2, .slice (some ⟨gj, 0, none⟩) k capj])) _) := RP.out.done (HJC.out) JL.out JS.out GD.out F
          clear q0 q1 q2 fq b0 b1 b2 F HJC
          obtain ⟨c0, c1, c2⟩ := box3 hres
          revert c0 c1 c2 fin
          clear hres
          generalize ((wr.setCell ⟨w.heap.size, 0, none⟩ (.int .i64 r)).setCell ⟨w.heap.size, 1, none⟩ (.slice (some ⟨g, 0, none⟩) k cap2)).setCell ⟨w.heap.size, 2, none⟩ (.slice (some ⟨gj, 0, none⟩) k capj) = W
          intro fin c0 c1 c2
          refine bodyPost_ret (v := .agg #[.int .i64 r, .slice (some ⟨g, 0, none⟩) k cap2, .slice (some ⟨gj, 0, none⟩) k capj]) ?_ rfl fin.out
          clear fin
          simp [results, Tryf.results28, go_sem, c0, c1, c2]
end Go.Proofs.Qxb6003965aFmt

/-
  Seat b6003965aF: the law, where it looks at every round.
-/
import Derived.Test.Qxb6003965aFmtLawR
import Derived.Test.Qxb6003965aFmtLawOut
import Derived.Test.Qxb6003965aFmtQuietR
import Derived.Deep.CutRange
import Derived.Deep.RegionHeld3
namespace Go.Proofs.Qxb6003965aFmt
open Go.RowKit Go.WideMaps Go.Maps Go.Shelf

attribute [local go_sem] Oper.semAt_some

theorem eqlf (f : Fn) (a b : Array Value) (w : World) : Sem.run Tryf.prog (binOp .eql 34 (.func f a b) .nilFunc) w = .ok (.bool false) w := by kernel_rfl

/-- What lies there when the range begins. -/
def Begun (w : World) (n : Nat) (A : Int) (R b C : Nat) (scr : List Int) (f e : Value) (W : World) : Prop :=
  ∃ Rb Sb so cp Sx Rx Gx Ux, f = .func (.func 40) #[] #[.pointer (some ⟨Gx, 0, none⟩), .pointer (some ⟨Ux, 0, none⟩)] ∧ e = .nilIface ∧
    W.heap[Sx]? = some (.cells #[.int .i64 (n : Int), .int .i64 A, .int .i64 (R : Int), .int .i64 (b : Int), .int .i64 (C : Int)] 30 (0, 0)) ∧ W.heap[Rx]? = some (.cells #[.pointer (some ⟨Rb, 0, none⟩)] 37 (0, 0)) ∧
    W.heap[Ux]? = some (.cells #[.int .i64 (R : Int)] 3 (0, 0)) ∧ W.heap[Gx]? = some (.cells #[.func (.func 22) #[] #[.pointer (some ⟨Sx, 0, none⟩), .pointer (some ⟨Rx, 0, none⟩)]] 64 (0, 0)) ∧
    RandAt W Rb Sb ∧ Src W Sb so cp scr 0 ∧ w.heap.size + 1 < Sb ∧ Below (w.heap.size + 1 + 1) ((w.alloc (.cells #[.int .i64 (n : Int), .int .i64 A, .int .i64 (R : Int), .int .i64 (b : Int), .int .i64 (C : Int)] 30)).alloc (.cells #[.bool false] 4)) W

set_option maxRecDepth 100000 in
set_option maxHeartbeats 4000000 in
theorem law_main (n : Nat) (A : Int) (R b C : Nat) (vo : Option Addr) (vc : Nat) (scr : List Int) (w : World) (hok : Okay n A R b C) (hR : R ≤ 1048576) (hn : n ≤ 1048576) (hl : scr.length ≤ 1048576) (hU : UAt w vo scr) (hnil : vo = none → scr.length = 0 ∧ vc = 0) :
    Calls Tryf.prog 4 #[.agg #[.int .i64 (n : Int), .int .i64 A, .int .i64 (R : Int), .int .i64 (b : Int), .int .i64 (C : Int)], .slice vo scr.length vc] w (Yes w) := by
  refine (callsIn_wide (n := 4)).1 ?_
  refine callsIn_of_wp_marks Tryf.func4 rfl trivial ?_ rfl
  simp only [Tryf.ntmps4, List.size_toArray, List.length_cons, List.length_nil, Nat.reduceAdd, Nat.reduceSub, Array.replicate_succ, Array.replicate_zero, List.push_toArray, List.append_toArray, List.nil_append, List.cons_append]
  refine wpIn_wide.2 ?_
  obtain ⟨w0, hw0⟩ : ∃ w0, w0 = (w.alloc (.cells #[.int .i64 (n : Int), .int .i64 A, .int .i64 (R : Int), .int .i64 (b : Int), .int .i64 (C : Int)] 30)).alloc (.cells #[.bool false] 4) := ⟨_, rfl⟩
  have e1 : (w.alloc (.cells #[.int .i64 (n : Int), .int .i64 A, .int .i64 (R : Int), .int .i64 (b : Int), .int .i64 (C : Int)] 30)).heap.size = w.heap.size + 1 := by simp
  have e2 : w0.heap.size = w.heap.size + 1 + 1 := by rw [hw0]; simp
  have B0 : Hid (Below w.heap.size w w0) := by rw [hw0]; exact ((Below.refl _ _).alloc (Nat.le_refl _) _).alloc (by omega) _
  have x0 : Hid (w0.heap[w.heap.size]? = some (.cells #[.int .i64 (n : Int), .int .i64 A, .int .i64 (R : Int), .int .i64 (b : Int), .int .i64 (C : Int)] 30 (0, 0))) := by rw [hw0]; exact heapA (heap_alloc_new w _)
  have q0 : Hid (w0.heap[w.heap.size + 1]? = some (.cells #[.bool false] 4 (0, 0))) := by
    rw [hw0]
    have := heap_alloc_new (w.alloc (.cells #[.int .i64 (n : Int), .int .i64 A, .int .i64 (R : Int), .int .i64 (b : Int), .int .i64 (C : Int)] 30)) (.cells #[.bool false] 4)
    rw [e1] at this; exact this
  have H9 := hidP (zcheck_ok n A R b C w0 hok)
  have H10 := fun Rb w => hidP (oldest_any Rb n A R b C w hok)
  have HOK := hidP hok
  have HU := hidP hU
  have HNIL := hidP hnil
  have HW0 := hidP hw0
  have hR' : (R : Int) ≤ 1048576 := by omega
  have hn' : (n : Int) ≤ 1048576 := by omega
  have hl' : (scr.length : Int) ≤ 1048576 := by omega
  clear hok hU hnil
  go_wp2_with fail
  rw [← hw0]
  clear hw0
  refine H9.out.mono ?_
  rintro e w1 ⟨rfl, hB⟩
  rw [e2] at hB
  have hsz := hB.size
  rw [e2] at hsz
  have hx1 := Below.obj hB (by omega) x0.out
  obtain ⟨c0, c1, c2, c3, c4⟩ := box5 hx1
  have HB1 := hidP hB
  have hu1 : Hid (UAt w1 vo scr) := fun h0 => by
    obtain ⟨b', off, e, hc⟩ := HU.out h0
    exact ⟨b', off, e, fun j hj => ⟨(Frm.new (S := fun _ => False) (B0.out.trans (hB.mono (by omega)))).cell (hc j hj).1 id, (hc j hj).2⟩⟩
  clear hB hx1
  go_upto_region 3 with fail
  go_cut [5, 6] from 14 to 39 (fun s5 s6 wx => Begun w n A R b C scr s5 s6 wx)
  case first =>
    have hx1d : w1.drew.heap[w.heap.size]? = some (.cells #[.int .i64 (n : Int), .int .i64 A, .int .i64 (R : Int), .int .i64 (b : Int), .int .i64 (C : Int)] 30 (0, 0)) := by
      have hB1 := Below.obj (k := w.heap.size) HB1.out (by omega) x0.out
      exact hB1
    have hxx := fun (W : World) (h : Below w1.drew.heap.size w1.drew W) => box5 (Below.obj h (show w.heap.size < w1.heap.size by omega) hx1d)
    refine wp_region_noPanic ?_
    go_region_with (first
      | (refine (rng_any vo vc scr w1.drew (show UAt w1.drew vo scr from hu1.out) HNIL.out hl).mono ?_; rintro e w2 ⟨Rb, Sb, so, cp, rfl, hr2, hs2, hB2, lS, lR⟩; obtain ⟨d0, d1, d2, d3, d4⟩ := hxx w2 hB2)
      | (refine (H10 _ _).out.mono ?_; rintro e w3 ⟨Sx, Rx, Gx, Ux, rfl, g1, g2, g3, g4, hB3, l1, l2, l3, l4⟩))
    all_goals
      refine NoPanic.normal ?_
      have hs3 : Below (w.heap.size + 1 + 1) w0 w3 := (HB1.out.drew.trans (hB2.mono (show w.heap.size + 1 + 1 ≤ w1.heap.size by omega))).trans (hB3.mono (by have := hB2.size; simp at this; omega))
      rw [HW0.out] at hs3
      have FB : Frm (fun _ => False) w2 w3 := Frm.new hB3
      go_wp2
      go_meet
      exact ⟨Rb, Sb, so, cp, Sx, Rx, Gx, Ux, rfl, rfl, g1, g2, g3, g4, FB.obj hr2 id, hs2.frm FB id (fun _ _ _ _ => id), by simp at lS; omega, hs3⟩
  case rest =>
    obtain ⟨Rb, Sb, so, cp, Sx, Rx, Gx, Ux, rfl, rfl, g1, g2, g3, g4, hr, hs, lS, hB⟩ := hcut
    rw [← HW0.out] at hB
    have hxw := Below.obj (k := w.heap.size) hB (by omega) x0.out
    have hqw := Below.obj (k := w.heap.size + 1) hB (by omega) q0.out
    have hszc := hB.size
    rw [e2] at hszc
    have BW : Hid (Below w.heap.size w wc) := B0.out.trans (hB.mono (by omega))
    clear c0 c1 c2 c3 c4 hu1 HB1 H9 H10 HU HNIL
    obtain ⟨c0, c1, c2, c3, c4⟩ := box5 hxw
    have c0a := fun (o : Obj) => (box5 (heapA (o := o) hxw)).1
    have HX := hidP hxw
    have HQ := hidP hqw
    have G1 := hidP g1
    have G2 := hidP g2
    have G3 := hidP g3
    have G4 := hidP g4
    have HRR := hidP hr
    have HSS := hidP hs
    clear g1 g2 g3 g4 hr hs hxw hqw hB HW0 x0 q0 B0 hsz e1 e2
    have heq := eqlf
    go_wp2_with fail
    refine (initial_any n _ hn).mono ?_
    rintro e w4 ⟨rfl, hrow, hB4⟩
    have hsz4 := hB4.size
    have e5 : (wc.alloc (.cells #[.int .i64 (C : Int)] 3)).heap.size = wc.heap.size + 1 := by simp
    rw [e5] at hrow hsz4 ⊢
    obtain ⟨w5, hw5⟩ : ∃ w5, w5 = (w4.alloc (.cells #[.slice (some ⟨wc.heap.size + 1, 0, none⟩) n n] 39)).alloc (.cells #[.int .i64 0] 3) := ⟨_, rfl⟩
    have e6 : (w4.alloc (.cells #[.slice (some ⟨wc.heap.size + 1, 0, none⟩) n n] 39)).heap.size = w4.heap.size + 1 := by simp
    have e7 : w5.heap.size = w4.heap.size + 1 + 1 := by rw [hw5]; simp
    have F4 : Frm (fun _ => False) wc w4 := ((Frm.refl _ _).alloc _).trans (Frm.new hB4)
    have F45 : Frm (fun _ => False) w4 w5 := by rw [hw5]; exact ((Frm.refl _ _).alloc _).alloc _
    have F5 : Frm (fun _ => False) wc w5 := F4.trans F45
    have hg0 := hrow.lt
    have lU := lt_of_block G3.out
    have lSb := lt_of_block HSS.out.box
    have hkb : w5.heap[w4.heap.size + 1]? = some (.cells #[.int .i64 0] 3 (0, 0)) := by
      have := heap_alloc_new (w4.alloc (.cells #[.slice (some ⟨wc.heap.size + 1, 0, none⟩) n n] 39)) (.cells #[.int .i64 0] 3)
      rw [e6] at this; rw [hw5]; exact this
    have hpb : w5.heap[w4.heap.size]? = some (.cells #[.slice (some ⟨wc.heap.size + 1, 0, none⟩) n n] 39 (0, 0)) := by
      rw [hw5]; exact heapA (heap_alloc_new w4 _)
    have hcb : w5.heap[wc.heap.size]? = some (.cells #[.int .i64 (C : Int)] 3 (0, 0)) := F45.obj (Below.obj (k := wc.heap.size) hB4 (by omega) (heap_alloc_new wc _)) id
    have hl0 : loK b C 0 = 0 := by unfold loK; rw [Nat.zero_sub, Nat.zero_mul]
    -- the law's memory at the range's beginning
    have L0 : Hid (∀ Fb Nb Pb Mb W0 W1, w5.heap.size ≤ W0.heap.size → Frm (fun _ => False) w5 W0 → W0.heap.size ≤ Fb → W0.heap.size ≤ Nb → W0.heap.size ≤ Pb → W0.heap.size ≤ Mb → Below W0.heap.size W0 W1 → ∃ g cap, LawAt w wc.heap.size w4.heap.size (w4.heap.size + 1) n A R b C Sb Fb Nb Pb Mb 0 W1 g cap) := by
      intro Fb Nb Pb Mb W0 W1 h0 hF h1 h2 h3 h4 hB
      have F : Frm (fun _ => False) w5 W1 := hF.trans (Frm.new hB)
      refine ⟨wc.heap.size + 1, n, F.obj (F5.obj HX.out id) id, F.obj (F5.obj HQ.out id) id, F.obj hcb id, F.obj hpb id, F.obj hkb id, ?_, ?_, ⟨by omega, by omega, by omega, by omega⟩, by omega, fun z hz e => by omega, ⟨by omega, by omega, by omega, by omega, by omega⟩⟩
      · rw [hl0]; exact (hrow.frm F45 id).frm F id
      · exact BW.out.trans ((F5.trans F).below BW.out.size (fun _ _ => id))
    have X5 := hidP (F5.obj G1.out id)
    have R5 := hidP (F5.obj G2.out id)
    have U5 := hidP (F5.obj G3.out id)
    have K5 := hidP (F5.obj G4.out id)
    have RR5 : Hid (RandAt w5 Rb Sb) := F5.obj HRR.out id
    have SS5 := hidP (HSS.out.frm F5 id (fun _ _ _ _ => id))
    have BW5 : Hid (Below w.heap.size w w5) := BW.out.trans (F5.below BW.out.size (fun _ _ => id))
    have HW5 := hidP hw5
    clear hrow hB4 F4 F45 F5 hkb hpb hcb hl0 HX HQ G1 G2 G3 G4 HRR HSS BW c0 c1 c2 c3 c4 c0a hw5
    go_wp2_with fail
    rw [← HW5.out]
    clear HW5
    obtain ⟨cb, hcbe⟩ : ∃ cb, cb = wc.heap.size := ⟨_, rfl⟩
    obtain ⟨pb, hpbe⟩ : ∃ pb, pb = w4.heap.size := ⟨_, rfl⟩
    have hpl : w.heap.size + 1 < cb ∧ cb < pb := by omega
    have nU : Ux ≠ pb + 1 ∧ Ux ≠ cb := by omega
    have e7' : w5.heap.size = pb + 1 + 1 := by rw [e7, hpbe]
    rw [← hcbe, ← hpbe] at L0 ⊢
    have hokk := HOK.out
    have hCn : C < n := by have := hokk.2.2.2.2.2.2.1; omega
    have hA1 : 1 ≤ A := hokk.2.2.1
    have hAc : Hid ((C : Int) ≤ A * ((n : Int) - (C : Int))) := by
      by_cases h : A < (C : Int)
      · exact hokk.2.2.2.2.2.2.2 h
      · have h2 : A * 1 ≤ A * ((n : Int) - (C : Int)) := Int.mul_le_mul_of_nonneg_left (by omega) (by omega)
        exact Int.le_trans (by omega) h2
    clear hokk heq e5 e6 e7 hsz4 hg0 lU lSb hszc hcbe hpbe HOK
    clear w0 w1 wc w4
    refine (wpIn_wide (n := 4)).1 ?_
    refine rangeFunc_mine (n := 4) (gf := 40) (lb := #[.pointer (some ⟨Gx, 0, none⟩), .pointer (some ⟨Ux, 0, none⟩)]) rfl (enters_of Tryf.func40 (by kernel_rfl) rfl) (encP b C) (fun _ => rfl)
      (fun x W => x.k < R ∧ (∃ g cap, LawAt w cb pb (pb + 1) n A R b C Sb x.Fb x.Nb x.Pb x.Mb x.k W g cap) ∧ Adv W Sx Ux Rb Sb n A R b C so cp scr x (x.k + 1) ∧ Told W (w5.heap.size + 1) n b C x)
      (fun x _ W' => (∃ g cap, LawAt w cb pb (pb + 1) n A R b C Sb x.Fb x.Nb x.Pb x.Mb (x.k + 1) W' g cap) ∧ Adv W' Sx Ux Rb Sb n A R b C so cp scr x (x.k + 1))
      (fun W => ∃ Fb Nb Pb Mb g cap, LawAt w cb pb (pb + 1) n A R b C Sb Fb Nb Pb Mb R W g cap) ?iter ?round ?done
    case iter =>
      intro r _ hL hY
      have F6 : Frm (fun _ => False) w5 ((w5.alloc (.deferred (some []))).alloc (.loop r)) := ((Frm.refl _ _).alloc _).alloc _
      refine draw_iter 3 _ _ Gx Ux Sx Rx Rb Sb n A R b C so cp scr 0 (by omega) r (fun Fb Nb Pb Mb k W => ∃ g cap, LawAt w cb pb (pb + 1) n A R b C Sb Fb Nb Pb Mb k W g cap) (fun Fb Nb Pb Mb k W W' h hf => ?_) (fun x W h hl => hY x W h hl) _ hL (F6.obj K5.out id) (F6.obj U5.out id) (F6.obj X5.out id) (F6.obj R5.out id) (SS5.out.frm F6 id (fun _ _ _ _ => id)) (F6.obj RR5.out id) (fun Fb Nb Pb Mb W1 h1 h2 h3 h4 hB => L0.out Fb Nb Pb Mb _ W1 F6.size F6 h1 h2 h3 h4 hB) hCn hn hR hA1 hAc.out
      obtain ⟨g, cap, h⟩ := h
      exact ⟨g, cap, h.kept hf⟩
    case round =>
      rintro r x W ⟨hk, ⟨g, cap, hlaw⟩, hadv, htold⟩ hL
      obtain ⟨k, Fb, Wb, Nb, Pb, Mb, vo1, vc1, jo, jc, js⟩ := x
      simp only [encP] at hk hlaw htold ⊢
      clear X5 R5 U5 K5 RR5 SS5 L0
      have hWB := BW5.out.size
      clear BW5
      generalize w5.heap.size = Db at *
      clear w5
      obtain ⟨ck, hck⟩ : ∃ ck, ck = cK b C (k + 1) := ⟨_, rfl⟩
      obtain ⟨lo, hlo⟩ : ∃ lo, lo = loK b C k := ⟨_, rfl⟩
      obtain ⟨l, hl⟩ : ∃ l, l = Db + 1 := ⟨_, rfl⟩
      have hlp : pb + 1 < l := by omega
      have hlw : w.heap.size ≤ l := by omega
      have HD := hidP hl
      have HE7 := hidP e7'
      have hold := htold.leave
      have hjoin := htold.join
      have hjlen := htold.jlen
      have hnodes := htold.nodes
      have hfresh := htold.fresh
      simp only at hold hjoin hjlen hnodes hfresh
      have hrow := hlaw.row
      rw [← hck, ← hlo] at hold
      rw [← hck] at hjlen hnodes ⊢
      rw [← hlo] at hnodes hrow
      rw [← hl] at hL hfresh ⊢
      have LW := hidP hlaw
      have AD := hidP hadv
      have LL := hidP hL
      have ek : ((k + 1 : Nat) : Int) = (k : Int) + 1 := by omega
      rw [ek]
      -- the round's box, the mark
      have hrd := heap_alloc_new W (.cells #[.int .i64 ((k : Int) + 1), .slice vo1 ck vc1, .slice jo ck jc] 43)
      have hlt := lt_of_block hL.1
      have hWl : (W.alloc (.cells #[.int .i64 ((k : Int) + 1), .slice vo1 ck vc1, .slice jo ck jc] 43)).heap[l]? = some (.loop r) := heapA hL.1
      have HCK := hidP hck
      have HLO := hidP hlo
      have HWL := hidP hWl
      -- W2: the box laid, the mark set
      obtain ⟨W2, hW2⟩ : ∃ W2, W2 = (W.alloc (.cells #[.int .i64 ((k : Int) + 1), .slice vo1 ck vc1, .slice jo ck jc] 43)).putObj l (.loop { r with state := .busy }) := ⟨_, rfl⟩
      have F2 : Frm (fun z => z = l) W W2 := by rw [hW2]; exact (Frm.alloc (Frm.refl _ _) _).trans (Frm.putObj _ _ _)
      have nl : ∀ z cur t, W.heap[z]? = some (.cells cur t (0, 0)) → ¬ z = l := fun z cur t h e => ne_obj h hL.1 (by simp) e
      have hDD := hL.2
      have hl2 : W2.heap[l]? = some (.loop { r with state := .busy }) := by rw [hW2]; exact World.putObj_heap_same (by simp; omega)
      have hD2 : W2.heap[Db]? = some (.deferred (some [])) := F2.obj hDD (by omega)
      have hrd2 : W2.heap[W.heap.size]? = some (.cells #[.int .i64 ((k : Int) + 1), .slice vo1 ck vc1, .slice jo ck jc] 43 (0, 0)) := by rw [hW2]; exact (World.putObj_heap_other (by omega)).trans hrd
      have hsz2 : W.heap.size < W2.heap.size := lt_of_block hrd2
      have hkb2 := F2.obj hlaw.kbox (nl _ _ _ hlaw.kbox)
      -- W3: behind 'k++'
      obtain ⟨W3, hW3⟩ : ∃ W3, W3 = W2.setCell ⟨pb + 1, 0, none⟩ (.int .i64 ((k : Int) + 1)) := ⟨_, rfl⟩
      have F3 : Frm (fun z => z = pb + 1) W2 W3 := by rw [hW3]; exact (Frm.refl (fun z => z = pb + 1) W2).setCell (p := ⟨pb + 1, 0, none⟩) (fun _ => rfl) _
      have F13 : Frm (fun z => z = pb + 1 ∨ z = pb ∨ z = l) W W3 := (F2.mono (fun z _ e => .inr (.inr e))).andThen F3 (fun z _ e => .inl e)
      have F13' : Frm (fun z => z = pb + 1 ∨ z = l) W W3 := (F2.mono (fun z _ e => .inr e)).andThen F3 (fun z _ e => .inl e)
      have nkp : pb ≠ pb + 1 := by omega
      have hx3 := F13'.obj hlaw.sx (by rintro (e | e) <;> omega)
      have hq3 := F13'.obj hlaw.res (by rintro (e | e) <;> omega)
      have hc3 := F13'.obj hlaw.cbox (by rintro (e | e) <;> omega)
      have hp3 := F13'.obj hlaw.pbox (by rintro (e | e) <;> omega)
      have hrd3 := F3.obj hrd2 (by omega)
      have hl3 := F3.obj hl2 (by omega)
      have hD3 := F3.obj hD2 (by omega)
      have hkb3 : W3.heap[pb + 1]? = some (.cells #[.int .i64 ((k : Int) + 1)] 3 (0, 0)) := by rw [hW3]; exact one_setCell hkb2
      have hgg : g ≠ pb + 1 ∧ g ≠ l := by
        obtain ⟨curg, hg1, _⟩ := hlaw.row
        exact ⟨ne_obj hg1 hlaw.kbox (by simp), nl _ _ _ hg1⟩
      have hrow3 : IRow W3 g cap (consec (lo : Int) n) := hrow.frm F13' (by omega)
      have hold3 : LAt W3 vo1 (consec (lo : Int) ck) := hold.frm F13' (fun a e => by have := hfresh a (.inl e); omega)
      have hjoin3 : JAt W3 jo js := hjoin.frm F13' (fun a e => by have := hfresh a (.inr e); omega)
      have hsz3 : W.heap.size < W3.heap.size := lt_of_block hrd3
      have k2 := cell_of_one hkb2
      have k2f := free_of_one hkb2
      have x3 := (box5 hx3).2.2.2.1
      have x0 := (box5 hx3).1
      have k3 := cell_of_one hkb3
      have c3 := cell_of_one hc3
      have p3 := cell_of_one hp3
      obtain ⟨r30, r31, r32⟩ := box3 hrd3
      have HO3 := hidP hold3
      have HJ3 := hidP hjoin3
      have HR3 := hidP hrow3
      have HX3 := hidP hx3
      have HQ3 := hidP hq3
      have HC3 := hidP hc3
      have HP3 := hidP hp3
      have HRD3 := hidP hrd3
      have HL3 := hidP hl3
      have HD3 := hidP hD3
      have HK3 := hidP hkb3
      have HF3 := hidP F13
      have HN := hidP hnodes
      have HJL := hidP hjlen
      have HW2 := hidP hW2
      have HW3 := hidP hW3
      have hkR : (k : Int) < 1048576 := by omega
      clear hck hlo hl e7' hWl hW2 hW3 F2 F3 F13 F13' hDD hl2 hD2 hrd2 hkb2 hx3 hq3 hc3 hp3 hrd3 hl3 hD3 hkb3 hrow3 hold3 hjoin3 hold hjoin hjlen hnodes hrow hlaw hadv htold hL hrd nl hfresh ek hWB hlt hsz2
      gi_wp2
      refine ⟨HWL.out, ?_⟩
      rw [← HW2.out]
      rw [HW3.out] at x3 x0 k3 c3 p3 r30 r31 r32
      by_cases hb : k + 1 ≤ b
      · have hbd : decide ((b : Int) < (k : Int) + 1) = false := by simp; omega
        have HBB := hidP hb
        clear hb
        gi_wp2_with fail
        rw [← HW3.out]
        rw [← HW3.out] at x3 x0 k3 c3 p3 r30 r31 r32
        have hckn : ck ≤ n := by have := HCK.out; unfold cK at this; split at this <;> omega
        refine ⟨trivial, CallsIn.inRound _ (callsIn_wide.2 ((apply_any g cap (lo : Int) n ck ((k : Int) + 1) vo1 jo vc1 jc js W3 HR3.out HO3.out HJ3.out HJL.out HN.out hckn hn).mono ?_))⟩
        rintro e W4 ⟨rfl, hrow4, hB4⟩
        have F4 : Frm (fun _ => False) W3 W4 := Frm.new hB4
        have hp4 := F4.obj HP3.out id
        have hp5 : (W4.setCell ⟨pb, 0, none⟩ (.slice (some ⟨W3.heap.size + 1, 0, none⟩) n (n + ck))).heap[pb]? = some (.cells #[.slice (some ⟨W3.heap.size + 1, 0, none⟩) n (n + ck)] 39 (0, 0)) := one_setCell hp4
        have p4 := cell_of_one hp4
        have p4f := free_of_one hp4
        obtain ⟨W5, hW5⟩ : ∃ W5, W5 = W4.setCell ⟨pb, 0, none⟩ (.slice (some ⟨W3.heap.size + 1, 0, none⟩) n (n + ck)) := ⟨_, rfl⟩
        have F5 : Frm (fun z => z = pb) W3 W5 := by rw [hW5]; exact (F4.mono (T := fun z => z = pb) (fun _ _ => False.elim)).setCell (p := ⟨pb, 0, none⟩) (fun _ => rfl) _
        have hlp3 := lt_of_block HP3.out
        have hrow5 : IRow W5 (W3.heap.size + 1) (n + ck) (consec ((lo : Int) + (ck : Int)) n) := by rw [hW5]; exact hrow4.frm (S := fun z => z = pb) ((Frm.refl (fun z => z = pb) W4).setCell (p := ⟨pb, 0, none⟩) (fun _ => rfl) _) (by omega)
        have H14 := sort_any (W3.heap.size + 1) (n + ck) (consec ((lo : Int) + (ck : Int)) n) W5 hrow5 (by rw [consec_len]; exact hn)
        rw [consec_len, srt_eq (List.Perm.refl _)] at H14
        have H14' := hidP H14
        have HF5 := hidP F5
        have HP5 := hidP hp5
        have HW5 := hidP hW5
        have p5 := cell_of_one hp5
        clear hrow4 hB4 F4 hp4 hp5 hW5 F5 hrow5 H14 x3 x0 k3 c3 p3 r30 r31 r32 k2 k2f
        gi_wp2_with fail
        rw [← HW5.out]
        refine ⟨trivial, CallsIn.inRound _ (callsIn_wide.2 (H14'.out.mono ?_))⟩
        rintro e W6 ⟨rfl, hrow6, hf6⟩
        have hp5w := HP5.out
        rw [← HW5.out] at hp5w
        have hp6 := hf6.obj hp5w (by omega)
        have F6 : Frm (fun z => z = pb ∨ z = W3.heap.size + 1) W3 W6 := (HF5.out.mono (fun z _ e => .inl e)).andThen hf6 (fun z _ e => .inr e)
        have k6 := cell_of_one (F6.obj HK3.out (by have := lt_of_block HK3.out; omega))
        have x6 := (box5 (F6.obj HX3.out (by have := lt_of_block HX3.out; omega))).2.2.2.1
        have elo : (lo : Int) + (ck : Int) = ((loK b C (k + 1) : Nat) : Int) := by
          have h1 := HCK.out
          have h2 := HLO.out
          rw [loK_succ]; omega
        rw [elo] at hrow6
        have FIN := hidP (round_end (x := ⟨k, Fb, Wb, Nb, Pb, Mb, vo1, vc1, jo, jc, js⟩) LW.out AD.out LL.out.1 hlw nU.1 hlp HF3.out hsz3 HL3.out HD3.out HP3.out HK3.out F6 hp6 hrow6)
        clear hrow6 hf6 hp5w hp6 F6 elo p5 p4 p4f H14' HP5 HF5 HW5
        gi_wp2
        exact FIN.out
      · have hbd : decide ((b : Int) < (k : Int) + 1) = true := by simp; omega
        have hckC : ck = C := by rw [HCK.out]; unfold cK; rw [if_neg hb]
        subst hckC
        have hnC : ((n : Int) < (ck : Int)) = False := by simp; omega
        clear hR' hn' hl' hkR
        have hbR : (b : Int) ≤ 1048576 := by omega
        have hloR : lo ≤ 1099511627776 := by rw [HLO.out]; exact loK_le b ck k R (by omega) hR (by omega)
        obtain ⟨d, hd⟩ : ∃ d : Nat, (k : Int) + 1 - (b : Int) - 1 = (d : Int) := ⟨k - b, by omega⟩
        have hm : (d : Int) * (ck : Int) = (lo : Int) := by
          have hdk : d = k - b := by omega
          rw [HLO.out, hdk]; unfold loK; rw [Int.natCast_mul]
        have HBB := hidP hb
        clear hb
        gi_wp2
        clear hd hm
        rw [← HW3.out]
        rw [← HW3.out] at x3 x0 k3 c3 p3 r30 r31 r32
        gi_loopw [81] (fun p wr => ∃ i : Nat, i ≤ ck ∧ p = .int .i64 i ∧ wr = W3) (fun p _ => ck - (intOf p).toNat)
        case atStart => exact ⟨0, Nat.zero_le _, rfl, rfl⟩
        case round =>
          obtain ⟨i, hi, rfl, hwr⟩ := hrel
          have hwr' := hwr.symm
          subst hwr'
          by_cases hlt : i < ck
          · obtain ⟨vb, vof, hvo, hvc⟩ := HO3.out (by rw [consec_len]; omega)
            subst hvo
            have v1 := hvc i (by rw [consec_len]; omega)
            rw [consec_get _ _ _ hlt] at v1
            have v2 := HR3.out.cell (j := i) (by rw [consec_len]; omega)
            rw [consec_get _ _ _ (by omega)] at v2
            clear hvc
            have hi2 : (i : Int) ≤ 1048576 := by omega
            gi_wp2
            go_roundw
            case rel => exact ⟨i + 1, by omega, by go_num, by simp⟩
            case measure => simp [intOf]; omega
          · have hic : ck = i := by omega
            subst hic
            clear hlt hi
            gi_wp2_with fail
            have hckn : ck ≤ n := by omega
            refine ⟨trivial, CallsIn.inRound _ (callsIn_wide.2 ((apply_any g cap (lo : Int) n ck ((k : Int) + 1) vo1 jo vc1 jc js W3 HR3.out HO3.out HJ3.out HJL.out HN.out hckn hn).mono ?_))⟩
            rintro e W4 ⟨rfl, hrow4, hB4⟩
            have F4 : Frm (fun _ => False) W3 W4 := Frm.new hB4
            have hp4 := F4.obj HP3.out id
            have hp5 : (W4.setCell ⟨pb, 0, none⟩ (.slice (some ⟨W3.heap.size + 1, 0, none⟩) n (n + ck))).heap[pb]? = some (.cells #[.slice (some ⟨W3.heap.size + 1, 0, none⟩) n (n + ck)] 39 (0, 0)) := one_setCell hp4
            have p4 := cell_of_one hp4
            have p4f := free_of_one hp4
            obtain ⟨W5, hW5⟩ : ∃ W5, W5 = W4.setCell ⟨pb, 0, none⟩ (.slice (some ⟨W3.heap.size + 1, 0, none⟩) n (n + ck)) := ⟨_, rfl⟩
            have F5 : Frm (fun z => z = pb) W3 W5 := by rw [hW5]; exact (F4.mono (T := fun z => z = pb) (fun _ _ => False.elim)).setCell (p := ⟨pb, 0, none⟩) (fun _ => rfl) _
            have hlp3 := lt_of_block HP3.out
            have hrow5 : IRow W5 (W3.heap.size + 1) (n + ck) (consec ((lo : Int) + (ck : Int)) n) := by rw [hW5]; exact hrow4.frm (S := fun z => z = pb) ((Frm.refl (fun z => z = pb) W4).setCell (p := ⟨pb, 0, none⟩) (fun _ => rfl) _) (by omega)
            have H14 := sort_any (W3.heap.size + 1) (n + ck) (consec ((lo : Int) + (ck : Int)) n) W5 hrow5 (by rw [consec_len]; exact hn)
            rw [consec_len, srt_eq (List.Perm.refl _)] at H14
            have H14' := hidP H14
            have HF5 := hidP F5
            have HP5 := hidP hp5
            have HW5 := hidP hW5
            have p5 := cell_of_one hp5
            clear hrow4 hB4 F4 hp4 hp5 hW5 F5 hrow5 H14 x3 x0 k3 c3 p3 r30 r31 r32 k2 k2f hwr
            gi_wp2_with fail
            rw [← HW5.out]
            refine ⟨trivial, CallsIn.inRound _ (callsIn_wide.2 (H14'.out.mono ?_))⟩
            rintro e W6 ⟨rfl, hrow6, hf6⟩
            have hp5w := HP5.out
            rw [← HW5.out] at hp5w
            have hp6 := hf6.obj hp5w (by omega)
            have F6 : Frm (fun z => z = pb ∨ z = W3.heap.size + 1) W3 W6 := (HF5.out.mono (fun z _ e => .inl e)).andThen hf6 (fun z _ e => .inr e)
            have k6 := cell_of_one (F6.obj HK3.out (by have := lt_of_block HK3.out; omega))
            have x6 := (box5 (F6.obj HX3.out (by have := lt_of_block HX3.out; omega))).2.2.2.1
            have elo : (lo : Int) + (ck : Int) = ((loK b ck (k + 1) : Nat) : Int) := by
              have h1 := HCK.out
              have h2 := HLO.out
              rw [loK_succ]; omega
            rw [elo] at hrow6
            have hlk := lt_of_block HK3.out
            have hlx := lt_of_block HX3.out
            have x60 := (box5 (F6.obj HX3.out (by omega))).1
            have p6 := cell_of_one hp6
            obtain ⟨m1, hm1⟩ : ∃ m1 : Nat, (n : Int) - 1 = (m1 : Int) := ⟨n - 1, by omega⟩
            obtain ⟨f0, hf0⟩ : ∃ f0, f0 = ((loK b ck (k + 1) : Nat) : Int) := ⟨_, rfl⟩
            have hloB := loK_le b ck (k + 1) R (by omega) hR (by omega)
            rw [← hf0] at hrow6
            have y0 := hrow6.cell (j := 0) (by rw [consec_len]; omega)
            rw [consec_get _ _ _ (by omega)] at y0
            have y1 := hrow6.cell (j := m1) (by rw [consec_len]; omega)
            rw [consec_get _ _ _ (by omega)] at y1
            obtain ⟨z0, hz0⟩ : ∃ z0, z0 = f0 + (m1 : Int) := ⟨_, rfl⟩
            rw [← hz0] at y1
            rw [show f0 + ((0 : Nat) : Int) = f0 by simp] at y0
            have hzf : z0 - f0 = (m1 : Int) := by omega
            have hf00 : 0 ≤ f0 := by omega
            have hf01 : f0 ≤ 1099511627776 := by omega
            have hz01 : z0 ≤ 1099512676352 := by omega
            have hz02 : 0 ≤ z0 := by omega
            have hm1l : (m1 : Int) < (n : Int) := by omega
            have HROW := hidP hrow6
            have FIN : Hid (∀ q, LoopAt (W6.drewN q) l Db { r with state := .busy } ∧ (∃ g cap, LawAt w cb pb (pb + 1) n A R b ck Sb Fb Nb Pb Mb (k + 1) ((W6.drewN q).putObj l (.loop r)) g cap) ∧ Adv ((W6.drewN q).putObj l (.loop r)) Sx Ux Rb Sb n A R b ck so cp scr ⟨k, Fb, Wb, Nb, Pb, Mb, vo1, vc1, jo, jc, js⟩ (k + 1)) := fun q =>
              round_end (x := ⟨k, Fb, Wb, Nb, Pb, Mb, vo1, vc1, jo, jc, js⟩) LW.out AD.out LL.out.1 hlw nU.1 hlp HF3.out hsz3 HL3.out HD3.out HP3.out HK3.out (F6.drewN q) hp6 (by rw [← hf0]; exact hrow6)
            have hasc : ∀ q, CallsIn Fence.wide 1 Tryf.prog 15 #[.slice (some ⟨W3.heap.size + 1, 0, none⟩) n (n + ck)] (W6.drewN q) fun e w' => e = .returned (.bool true) ∧ ∃ m, w' = W6.drewN m := fun q => by
              have h1 := asc_any (W3.heap.size + 1) (n + ck) (consec f0 n) (W6.drewN q) hrow6 (by rw [consec_len]; exact hn) (asc_consec f0 n)
              rw [consec_len] at h1
              refine callsIn_wide.2 (h1.mono ?_)
              rintro e w' ⟨rfl, m, rfl⟩
              exact ⟨rfl, q + m, by simp [World.drewN, Nat.add_assoc]⟩
            have HASC := hidP hasc
            clear hasc
            clear hrow6 hf6 hp5w hp6 F6 elo p5 p4 p4f H14' HP5 HF5 HW5 hz0 hf0 hlk hlx HL3 HD3 HP3 HK3 HX3 HF3 HR3 HO3 HJ3 HQ3 HC3 HRD3 LW AD LL hloB
            gi_wp2_with fail
            have hwf : Fence.wide.fn 15 := trivial
            refine quiet_round (by kernel_rfl) (by kernel_rfl) (by kernel_rfl) ?_
            repeat (gi_big_quiet_step (exact HASC.out _))
            refine wpQuietIn_nil ?_
            intro _ hw'
            obtain ⟨nq, hw''⟩ := hw'
            subst hw''
            gi_wp2
            exact FIN.out nq
    case done =>
      rintro r W W' ⟨Fb, Nb, Pb, Mb, g, cap, hlaw⟩ hL hfr hD
      have nl : ∀ z cur t, W.heap[z]? = some (.cells cur t (0, 0)) → ¬ z = w5.heap.size + 1 := fun z cur t h e => ne_obj h hL.1 (by simp) e
      obtain ⟨curg, hgg, _⟩ := hlaw.row
      have hlaw2 := hlaw.frm hfr (fun z hz => by
        rcases hz with rfl | rfl | rfl | rfl | rfl | rfl
        · exact nl _ _ _ hlaw.sx
        · exact nl _ _ _ hlaw.res
        · exact nl _ _ _ hlaw.cbox
        · exact nl _ _ _ hlaw.pbox
        · exact nl _ _ _ hlaw.kbox
        · exact nl _ _ _ hgg) (fun z hz e => by have := BW5.out.size; omega)
      have hq := hlaw2.res
      have hc := cell_of_one hq
      have hf := free_of_one hq
      have hq2 : (W'.setCell ⟨w.heap.size + 1, 0, none⟩ (.bool true)).heap[w.heap.size + 1]? = some (.cells #[.bool true] 4 (0, 0)) := one_setCell hq
      have hD2 : (W'.setCell ⟨w.heap.size + 1, 0, none⟩ (.bool true)).heap[w5.heap.size]? = some (.deferred (some [])) := (heap_setCell_other _ _ _ _ (by have := BW5.out.size; simp; omega)).trans hD
      have RY : Hid (Yes w (.returned (.bool true)) ((W'.setCell ⟨w.heap.size + 1, 0, none⟩ (.bool true)).putObj w5.heap.size (.deferred none))) := ⟨rfl, (hlaw2.below.setCell (p := ⟨w.heap.size + 1, 0, none⟩) (by simp) _).trans ((Frm.putObj _ _ _).below (by have := hlaw2.below.size; simp [World.setCell]; omega) (fun k hk e => by have := BW5.out.size; omega))⟩
      have hq3 : ((W'.setCell ⟨w.heap.size + 1, 0, none⟩ (.bool true)).putObj w5.heap.size (.deferred none)).heap[w.heap.size + 1]? = some (.cells #[.bool true] 4 (0, 0)) := (World.putObj_heap_other (by omega)).trans hq2
      have hc3 := cell_of_one hq3
      clear hlaw hlaw2 nl hL hfr hgg hq hq2 hq3
      go_wp2
      refine ⟨by simp, .inl ⟨_, _, rfl, run_takeDeferred hD2, ?_⟩⟩
      refine ⟨.bool true, ?_, RY.out⟩
      clear RY
      simp [results, Tryf.f4, go_sem, hc3]
end Go.Proofs.Qxb6003965aFmt

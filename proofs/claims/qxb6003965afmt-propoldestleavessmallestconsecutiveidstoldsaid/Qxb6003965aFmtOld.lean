/-
  Seat b6003965aF: a round of Oldest.
-/
import Derived.Test.Qxb6003965aFmtReplM
import Derived.Test.Qxb6003965aFmtOldP
namespace Go.Proofs.Qxb6003965aFmt
open Go.RowKit Go.WideMaps Go.Maps

/-- The adversary between two rounds: the present are lo, .., lo + n - 1. -/
structure Sys (w : World) (Sx Fb Wb Nb Rb Sb Pb Mb : Nat) (n : Nat) (A rr b : Int) (C : Nat) (lo : Int) (so : Option Addr) (cp : Nat) (scr : List Int) : Prop where
  sx : w.heap[Sx]? = some (.cells #[.int .i64 (n : Int), .int .i64 A, .int .i64 rr, .int .i64 b, .int .i64 (C : Int)] 30 (0, 0))
  fb : w.heap[Fb]? = some (.cells #[.int .i64 lo] 2 (0, 0))
  wb : w.heap[Wb]? = some (.cells #[.pointer (some ⟨Nb, 0, none⟩)] 58 (0, 0))
  net : ∃ ps D m i, Net w Nb Rb Pb Mb A n (lo + (n : Int)) ps D m ∧ ps.Perm (consec lo n) ∧ Src w Sb so cp scr i
  rand : RandAt w Rb Sb
  fp : Fb ≠ Pb

/-- What a round leaves. -/
def Rounded (w : World) (Sx Fb Wb Nb Rb Sb Pb Mb : Nat) (n : Nat) (A rr b : Int) (C : Nat) (lo : Int) (so : Option Addr) (cp : Nat) (scr : List Int) (k : Int) (c : Nat) (e : Ending) (w' : World) : Prop :=
  ∃ vo vc jo jc js, e = .returned (.agg #[.int .i64 k, .slice vo c vc, .slice jo c jc]) ∧ LAt w' vo (consec lo c) ∧ JAt w' jo js ∧ js.length = c ∧ (∀ j, j < c → (js.getD j (0, 0)).1 = lo + (n : Int) + (j : Int)) ∧
    (∀ a, vo = some a → w.heap.size ≤ a.block) ∧ (∀ a, jo = some a → w.heap.size ≤ a.block) ∧ Sys w' Sx Fb Wb Nb Rb Sb Pb Mb n A rr b C (lo + (c : Int)) so cp scr ∧
    Frm (fun i => i = Fb ∨ i = Nb ∨ i = Pb ∨ i = Mb ∨ i = Sb) w w'

theorem LAt.frm {w w' : World} {vo : Option Addr} {zs : List Int} {T : Nat → Prop} (h : LAt w vo zs) (hf : Frm T w w') (hT : ∀ a, vo = some a → ¬ T a.block) : LAt w' vo zs := fun h0 => by
  obtain ⟨b, off, e, hc⟩ := h h0
  exact ⟨b, off, e, fun j hj => hf.cell (hc j hj) (hT _ e)⟩
theorem JAt.frm {w w' : World} {jo : Option Addr} {js : List (Int × Int)} {T : Nat → Prop} (h : JAt w jo js) (hf : Frm T w w') (hT : ∀ a, jo = some a → ¬ T a.block) : JAt w' jo js := fun h0 => by
  obtain ⟨b, off, e, hc⟩ := h h0
  exact ⟨b, off, e, fun j hj => ⟨hf.cell (hc j hj).1 (hT _ e), hf.cell (hc j hj).2 (hT _ e)⟩⟩

theorem replace_any (Nb Rb Sb Pb Mb : Nat) (A : Int) (n : Nat) (nx : Int) (ps : List Int) (D : DataW Unit) (m : Nat) (r : Int) (c : Nat) (so : Option Addr) (cp : Nat) (scr : List Int) (i : Nat) (w : World) (h : Net w Nb Rb Pb Mb A n nx ps D m) (hs : Src w Sb so cp scr i) (hR : RandAt w Rb Sb)
    (hcn : c < n) (hn : n ≤ 1048576) (hA : 1 ≤ A) (hAc : (c : Int) ≤ A * ((n : Int) - (c : Int))) (hnd : ps.Nodup) (hid : ∀ x ∈ ps, 0 ≤ x ∧ x ≤ 1125899906842624) (hnx : 0 ≤ nx ∧ nx ≤ 1125899906842624) :
    Calls Tryf.prog 28 #[.pointer (some ⟨Nb, 0, none⟩), .int .i64 r, .int .i64 (c : Int)] w (Replaced w Nb Rb Sb Pb Mb A n nx ps r c so cp scr) := by
  rcases Nat.eq_zero_or_pos c with e | e
  · subst e; exact replace_zero Nb Rb Sb Pb Mb A n nx ps D m r so cp scr i w h hs hR
  · exact replace_pos Nb Rb Sb Pb Mb A n nx ps D m r c so cp scr i w h hs hR e hcn hn hA hAc hnd hid hnx

set_option maxRecDepth 100000 in
set_option maxHeartbeats 1000000 in
theorem round_any (Sx Fb Wb Nb Rb Sb Pb Mb : Nat) (n : Nat) (A rr b : Int) (C : Nat) (lo : Int) (so : Option Addr) (cp : Nat) (scr : List Int) (k : Int) (c : Nat) (w : World) (h : Sys w Sx Fb Wb Nb Rb Sb Pb Mb n A rr b C lo so cp scr)
    (hc : (c : Int) = if k ≤ b then 0 else (C : Int)) (hCn : C < n) (hn : n ≤ 1048576) (hA : 1 ≤ A) (hAc : (C : Int) ≤ A * ((n : Int) - (C : Int))) (hlo : 0 ≤ lo) (hlo2 : lo ≤ 1125899905794048) :
    Calls Tryf.prog 24 #[.int .i64 k, .pointer (some ⟨Sx, 0, none⟩), .pointer (some ⟨Fb, 0, none⟩), .pointer (some ⟨Wb, 0, none⟩)] w (Rounded w Sx Fb Wb Nb Rb Sb Pb Mb n A rr b C lo so cp scr k c) := by
  obtain ⟨c0, c1, c2, c3, c4⟩ := box5 (heapA (o := .cells #[.int .i64 0, .slice none 0 0, .slice none 0 0] 43) h.sx)
  have HC := hidP hc
  have H := hidP h
  have HA := hidP hAc
  have H25 := fun w => hidP (churn_any (n : Int) A rr b (C : Int) k w)
  clear h hc hAc
  go_enter Tryf.func24, Tryf.ntmps24
  go_wp2_with fail
  refine (H25 _).out.mono ?_
  rintro e w1 ⟨rfl, h1⟩
  rw [← HC.out]
  have F1 : Frm (fun _ => False) w w1 := ((Frm.refl _ _).alloc _).trans (Frm.new h1)
  have q1 := Below.obj h1 (by simp) (heap_alloc_new w (.cells #[.int .i64 0, .slice none 0 0, .slice none 0 0] 43))
  have hf1 := F1.obj H.out.fb id
  have hcf := cell_of_one hf1
  have hff := free_of_one hf1
  clear h1 c0 c1 c2 c3 c4 H25
  have hcn : c ≤ n := by have := HC.out; split at this <;> omega
  obtain ⟨y, hy⟩ : ∃ y, lo + (c : Int) = y := ⟨_, rfl⟩
  -- behind 'first += c'
  have F2 : Frm (fun i => i = Fb) w1 (w1.setCell ⟨Fb, 0, none⟩ (.int .i64 y)) := (Frm.refl (fun i => i = Fb) w1).setCell (p := ⟨Fb, 0, none⟩) (fun _ => rfl) _
  have F02 : Frm (fun i => i = Fb) w (w1.setCell ⟨Fb, 0, none⟩ (.int .i64 y)) := (F1.mono (fun _ _ => False.elim)).trans F2
  have hlF := lt_of_block H.out.fb
  obtain ⟨ps, D, m, i, hnet, hperm, hsrc⟩ := H.out.net
  obtain ⟨cur, hpb, _⟩ := hnet.row
  obtain ⟨es, cl, hmb⟩ := map_block hnet.map
  have n1 : Nb ≠ Fb := ne_obj hnet.box H.out.fb (by simp)
  have n2 : Pb ≠ Fb := H.out.fp.symm
  have n3 : Mb ≠ Fb := ne_obj hmb H.out.fb (by simp)
  have n4 : Sb ≠ Fb := ne_obj hsrc.box H.out.fb (by simp)
  have n5 : Rb ≠ Fb := ne_obj H.out.rand H.out.fb (by simp)
  have n6 : Wb ≠ Fb := ne_obj H.out.wb H.out.fb (by simp)
  have n7 : Sx ≠ Fb := ne_obj H.out.sx H.out.fb (by simp)
  have hap := hidP (hnet.apart hsrc)
  have p1 : Wb ≠ Pb := ne_obj H.out.wb hpb (by simp)
  have p2 : Sx ≠ Pb := ne_obj H.out.sx hpb (by simp)
  have p3 : Sb ≠ Pb := ne_obj hsrc.box hpb (by simp)
  have p4 : Rb ≠ Pb := ne_obj H.out.rand hpb (by simp)
  have o1 : Wb ≠ Nb ∧ Wb ≠ Mb ∧ Wb ≠ Sb := ⟨ne_obj H.out.wb hnet.box (by simp), ne_obj H.out.wb hmb (by simp), ne_obj H.out.wb hsrc.box (by simp)⟩
  have o2 : Sx ≠ Nb ∧ Sx ≠ Mb ∧ Sx ≠ Sb := ⟨ne_obj H.out.sx hnet.box (by simp), ne_obj H.out.sx hmb (by simp), ne_obj H.out.sx hsrc.box (by simp)⟩
  have hscr : ∀ b off, so = some ⟨b, off, none⟩ → 0 < scr.length → ¬ b = Fb := by
    intro b off e h0 e2
    obtain ⟨b', off', e', hcc⟩ := hsrc.row h0
    rw [e] at e'
    simp only [Option.some.injEq, Addr.mk.injEq, and_true] at e'
    obtain ⟨rfl, rfl⟩ := e'
    have c0 := (hcc 0 h0).1
    rw [e2, cell_of_row _ _ _ _ _ _ H.out.fb] at c0
    rcases hk : off + 0 with _ | k <;> rw [hk] at c0 <;> simp at c0
  have hnet2 := hnet.frm F02 n1 n2 n3
  have hsrc2 := hsrc.frm F02 n4 hscr
  have hrand2 : RandAt (w1.setCell ⟨Fb, 0, none⟩ (.int .i64 y)) Rb Sb := F02.obj H.out.rand n5
  have hwb2 := F02.obj H.out.wb n6
  have hsx2 := F02.obj H.out.sx n7
  have hfb2 : (w1.setCell ⟨Fb, 0, none⟩ (.int .i64 y)).heap[Fb]? = some (.cells #[.int .i64 y] 2 (0, 0)) := one_setCell hf1
  have hq2 := F2.obj q1 (by omega)
  have cw2 := cell_of_one hwb2
  have HN := hidP hnet2
  have HS := hidP hsrc2
  have HR := hidP hrand2
  have HW := hidP hwb2
  have HX := hidP hsx2
  have HFB := hidP hfb2
  have HQ := hidP hq2
  have HF := hidP F02
  have HP := hidP hperm
  have lts : Hid (Sx < w.heap.size ∧ Fb < w.heap.size ∧ Wb < w.heap.size ∧ Nb < w.heap.size ∧ Pb < w.heap.size ∧ Mb < w.heap.size ∧ Sb < w.heap.size ∧ Rb < w.heap.size) := ⟨lt_of_block H.out.sx, hlF, lt_of_block H.out.wb, lt_of_block hnet.box, hnet.row.lt, lt_of_block hmb, lt_of_block hsrc.box, lt_of_block H.out.rand⟩
  have HY := hidP hy
  clear F1 q1 hf1 F2 F02 hnet hperm hsrc hpb hmb hnet2 hsrc2 hrand2 hwb2 hsx2 hfb2 hq2 hlF hscr
  go_wp2_with fail
  generalize w1.setCell ⟨Fb, 0, none⟩ (.int .i64 y) = w2 at *
  clear hcf hff cw2
  refine (leave_any Nb Rb Pb Mb Fb A n (lo + (n : Int)) ps D m y w2 HN.out (cell_of_one HFB.out) H.out.fp hn).mono ?_
  rintro e w3 ⟨k', xs, rfl, hnet3, hp3, hk3, hl3, hg3, hf3⟩
  have hy' := HY.out
  obtain ⟨rfl, pt, pd⟩ := parted (hp3.trans HP.out) hcn hk3 (fun j hj => by rw [hy']; exact hl3 j hj) (fun j h1 h2 => by rw [hy']; exact hg3 j h1 h2)
  have hlt := lts.out
  have hs2 := HF.out.size
  have hs3 := hf3.size
  have hq3 := hf3.obj HQ.out (by omega)
  have hwb3 := hf3.obj HW.out p1
  have hsx3 := hf3.obj HX.out p2
  have hfb3 := hf3.obj HFB.out n2.symm
  have hsrc3 := HS.out.frm hf3 p3 (fun b off e h0 => (hap.out b off e h0).2.1)
  have hrand3 : RandAt w3 Rb Sb := hf3.obj HR.out p4
  have cw3 := cell_of_one hwb3
  have hl2 := lt_of_block HQ.out
  have hAc : (k' : Int) ≤ A * ((n : Int) - (k' : Int)) := by
    have h1 := HC.out
    have h2 := HA.out
    split at h1
    · rw [h1, Int.sub_zero]
      exact Int.mul_nonneg (by omega) (by omega)
    · rw [h1]; exact h2
  have hkn : k' < n := by
    have h1 := HC.out
    split at h1 <;> omega
  have H28 := hidP (replace_any Nb Rb Sb Pb Mb A n (lo + (n : Int)) xs D m k k' so cp scr i w3 hnet3 hsrc3 hrand3 hkn hn hA hAc ((hp3.trans HP.out).nodup_iff.2 (consec_nodup lo n)) (fun x hx => by
    have := mem_consec.1 ((hp3.trans HP.out).mem_iff.1 hx); omega) (by omega))
  have H3 := hidP hnet3
  have HS3 := hidP hsrc3
  have HQ3 := hidP hq3
  have HW3 := hidP hwb3
  have HX3 := hidP hsx3
  have HFB3 := hidP hfb3
  have PT := hidP pt
  have PD := hidP pd
  have F3 : Hid (Frm (fun i => i = Fb ∨ i = Nb ∨ i = Pb ∨ i = Mb ∨ i = Sb) w w3) := (HF.out.mono (fun i _ e => .inl e)).andThen hf3 (fun i _ e => .inr (.inr (.inl e)))
  clear hnet3 hsrc3 hrand3 hq3 hwb3 hsx3 hfb3 pt pd hf3 hl3 hg3 hp3 hAc HN HS HR HW HX HFB HQ HF HP hlt hy hy'
  go_wp2_with fail
  refine H28.out.mono ?_
  rintro e w4 ⟨vo, vc, jo, jc, js, xs4, D4, m4, i4, rfl, hv4, hj4, hjl4, hjs4, fv4, fj4, hnet4, hp4, hsrc4, hrand4, hf4⟩
  have hlt := lts.out
  have nq : ∀ t, t < w.heap.size → t ≠ w.heap.size := fun t h e => by omega
  have out : ∀ t, t = w.heap.size → ¬ (t = Nb ∨ t = Pb ∨ t = Mb ∨ t = Sb) := fun t e h => by omega
  have hq4 := hf4.obj HQ3.out (out _ rfl)
  have hwb4 := hf4.obj HW3.out (fun e => by omega)
  have hsx4 := hf4.obj HX3.out (fun e => by omega)
  have hfb4 := hf4.obj HFB3.out (fun e => by omega)
  have hsz4 := hf4.size
  have fin : Hid (∀ W, Frm (fun j => j = w.heap.size) w4 W → Rounded w Sx Fb Wb Nb Rb Sb Pb Mb n A rr b C lo so cp scr k k' (.returned (.agg #[.int .i64 k, .slice vo k' vc, .slice jo k' jc])) W) := by
    intro W F
    rw [srt_eq PT.out] at hv4
    have hnn : lo + (n : Int) + (k' : Int) = lo + (k' : Int) + (n : Int) := by omega
    rw [hnn] at hnet4
    refine ⟨vo, vc, jo, jc, js, rfl, hv4.frm F (fun a e => ?_), hj4.frm F (fun a e => ?_), hjl4, hjs4, fun a e => ?_, fun a e => ?_, ⟨F.obj hsx4 (by omega), F.obj (by rw [HY.out]; exact hfb4) (by omega), F.obj hwb4 (by omega), ⟨xs4, D4, m4, i4, hnet4.frm F (by omega) (by omega) (by omega), hp4.trans (joined (by omega) PD.out), hsrc4.frm F (by omega) (fun b off e h0 => ?_)⟩, F.obj hrand4 (by omega), H.out.fp⟩, (F3.out.andThen hf4 (fun i _ e => .inr e)).andThen F (fun i hi e => by omega)⟩
    · have := fv4 a e; omega
    · have := fj4 a e; omega
    · have := fv4 a e; omega
    · have := fj4 a e; omega
    · have := (hap.out b off e h0).2.2.2; omega
  obtain ⟨q0, q1, q2⟩ := box3 hq4
  have fq := fun j => frozen_of_row _ _ j _ _ hq4
  have HQ4 := hidP hq4
  clear hq4 hwb4 hsx4 hfb4 hv4 hj4 hjl4 hjs4 fv4 fj4 hnet4 hp4 hsrc4 hrand4 hf4 nq out hlt HQ3 HW3 HX3 HFB3 H28 HS3 H3
  go_wp2
  have hres := store3 (.int .i64 k) (.slice vo k' vc) (.slice jo k' jc) HQ4.out
  have F := Frm.store3 (S := fun j => j = w.heap.size) (.int .i64 k) (.slice vo k' vc) (.slice jo k' jc) (Frm.refl (fun j => j = w.heap.size) w4) (B := w.heap.size) (fun _ => rfl)
  have fin2 := hidP (fin.out _ F)
  obtain ⟨c0, c1, c2⟩ := box3 hres
  revert c0 c1 c2 fin2
  clear hres F fin q0 q1 q2 fq
  generalize ((w4.setCell ⟨w.heap.size, 0, none⟩ (.int .i64 k)).setCell ⟨w.heap.size, 1, none⟩ (.slice vo k' vc)).setCell ⟨w.heap.size, 2, none⟩ (.slice jo k' jc) = W
  intro fin c0 c1 c2
  refine bodyPost_ret (v := .agg #[.int .i64 k, .slice vo k' vc, .slice jo k' jc]) ?_ rfl fin.out
  clear fin
  simp [results, Tryf.results24, go_sem, c0, c1, c2]
end Go.Proofs.Qxb6003965aFmt

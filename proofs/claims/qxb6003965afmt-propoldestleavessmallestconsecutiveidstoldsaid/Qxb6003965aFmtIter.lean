/-
  Seat b6003965aF: the iterator that Oldest hands back.
-/
import Derived.Test.Qxb6003965aFmtStart
namespace Go.Proofs.Qxb6003965aFmt
open Go.RowKit Go.WideMaps Go.Maps Go.Shelf

attribute [local go_sem] Oper.semAt_some

/-- How many leave in round k; which is the least present behind it. -/
def cK (b C k : Nat) : Nat := if k ≤ b then 0 else C
def loK (b C k : Nat) : Nat := (k - b) * C
theorem loK_succ (b C k : Nat) : loK b C (k + 1) = loK b C k + cK b C (k + 1) := by
  unfold loK cK
  by_cases h : k + 1 ≤ b
  · rw [if_pos h, Nat.sub_eq_zero_of_le h, Nat.sub_eq_zero_of_le (show k ≤ b by omega), Nat.add_zero]
  · rw [if_neg h, show k + 1 - b = (k - b) + 1 by omega, Nat.add_mul, Nat.one_mul]
theorem loK_le (b C k R : Nat) (hk : k ≤ R) (hR : R ≤ 1048576) (hC : C ≤ 1048576) : loK b C k ≤ 1099511627776 := by
  unfold loK
  exact Nat.le_trans (Nat.mul_le_mul (show k - b ≤ 1048576 by omega) hC) (by decide)

/-- One round's word: its number less one; the blocks of the adversary; its leave, its join. -/
structure Pt where
  k : Nat
  Fb : Nat
  Wb : Nat
  Nb : Nat
  Pb : Nat
  Mb : Nat
  vo : Option Addr
  vc : Nat
  jo : Option Addr
  jc : Nat
  js : List (Int × Int)

def encP (b C : Nat) (x : Pt) : Array Value := #[.agg #[.int .i64 ((x.k + 1 : Nat) : Int), .slice x.vo (cK b C (x.k + 1)) x.vc, .slice x.jo (cK b C (x.k + 1)) x.jc]]

/-- The adversary's side, between two rounds. -/
structure Adv (W : World) (Sx Ux Rb Sb n : Nat) (A : Int) (R b C : Nat) (so : Option Addr) (cp : Nat) (scr : List Int) (x : Pt) (k : Nat) : Prop where
  sys : Sys W Sx x.Fb x.Wb x.Nb Rb Sb x.Pb x.Mb n A (R : Int) (b : Int) C ((loK b C k : Nat) : Int) so cp scr
  ux : W.heap[Ux]? = some (.cells #[.int .i64 (R : Int)] 3 (0, 0))

/-- When the round's word is handed on. -/
structure Told (W : World) (l n b C : Nat) (x : Pt) : Prop where
  leave : LAt W x.vo (consec ((loK b C x.k : Nat) : Int) (cK b C (x.k + 1)))
  join : JAt W x.jo x.js
  jlen : x.js.length = cK b C (x.k + 1)
  nodes : ∀ j, j < cK b C (x.k + 1) → (x.js.getD j (0, 0)).1 = ((loK b C x.k : Nat) : Int) + (n : Int) + (j : Int)
  fresh : ∀ a, (x.vo = some a ∨ x.jo = some a) → l < a.block

set_option maxRecDepth 100000 in
set_option maxHeartbeats 2000000 in
theorem draw_iter (N l D Gx Ux Sx Rx Rb Sb n : Nat) (A : Int) (R b C : Nat) (so : Option Addr) (cp : Nat) (scr : List Int) (i : Nat) (hN : 1 ≤ N) (r : Loop) (L : Nat → Nat → Nat → Nat → Nat → World → Prop)
    (hLf : ∀ Fb Nb Pb Mb k W W', L Fb Nb Pb Mb k W → Frm (fun i => i = Fb ∨ i = Nb ∨ i = Pb ∨ i = Mb ∨ i = Sb) W W' → L Fb Nb Pb Mb k W')
    (hY : ∀ x W, (x.k < R ∧ L x.Fb x.Nb x.Pb x.Mb x.k W ∧ Adv W Sx Ux Rb Sb n A R b C so cp scr x (x.k + 1) ∧ Told W l n b C x) → LoopAt W l D r → YieldAt Fence.wide (N - 1) Tryf.prog l (encP b C x) W fun e W' => e = .returned (.bool true) ∧ (L x.Fb x.Nb x.Pb x.Mb (x.k + 1) W' ∧ Adv W' Sx Ux Rb Sb n A R b C so cp scr x (x.k + 1)) ∧ LoopAt W' l D r)
    (W : World) (hL : LoopAt W l D r) (hgx : W.heap[Gx]? = some (.cells #[.func (.func 22) #[] #[.pointer (some ⟨Sx, 0, none⟩), .pointer (some ⟨Rx, 0, none⟩)]] 64 (0, 0))) (hux : W.heap[Ux]? = some (.cells #[.int .i64 (R : Int)] 3 (0, 0)))
    (hsx : W.heap[Sx]? = some (.cells #[.int .i64 (n : Int), .int .i64 A, .int .i64 (R : Int), .int .i64 (b : Int), .int .i64 (C : Int)] 30 (0, 0))) (hrx : W.heap[Rx]? = some (.cells #[.pointer (some ⟨Rb, 0, none⟩)] 37 (0, 0))) (hs : Src W Sb so cp scr i) (hR : RandAt W Rb Sb)
    (hL0 : ∀ Fb Nb Pb Mb W1, W.heap.size ≤ Fb → W.heap.size ≤ Nb → W.heap.size ≤ Pb → W.heap.size ≤ Mb → Below W.heap.size W W1 → L Fb Nb Pb Mb 0 W1)
    (hCn : C < n) (hn : n ≤ 1048576) (hRR : R ≤ 1048576) (hA : 1 ≤ A) (hAc : (C : Int) ≤ A * ((n : Int) - (C : Int))) :
    CallsIn Fence.wide N Tryf.prog 40 #[.func (.yield l) #[] #[], .pointer (some ⟨Gx, 0, none⟩), .pointer (some ⟨Ux, 0, none⟩)] W fun e W' => (∃ v, e = .returned v) ∧ (∃ Fb Nb Pb Mb, L Fb Nb Pb Mb R W') ∧ LoopAt W' l D r := by
  have H22 := hidP (start_any Sx Rx Rb Sb n A (R : Int) (b : Int) C so cp scr i W hsx hrx hs hR hn)
  have g0 := cell_of_one hgx
  have HUX := hidP hux
  have HA := hidP hAc
  have HL := hidP hL
  have HL0 := hidP hL0
  clear hgx hux hsx hrx hs hR hAc hL hL0
  refine callsIn_of_wp Tryf.func40 rfl trivial ?_ rfl
  simp only [Tryf.ntmps40, List.size_toArray, List.length_cons, List.length_nil, Nat.reduceAdd, Nat.reduceSub, Array.replicate_succ, Array.replicate_zero, List.push_toArray, List.append_toArray, List.nil_append, List.cons_append]
  gi_wp2
  refine ⟨trivial, callsIn_wide.2 (H22.out.mono ?_)⟩
  rintro e W1 ⟨Fb, Wb, Nb, Pb, Mb, rfl, hsys, hB, lF, lW, lN, lP, lM⟩
  have hLk : Hid (L Fb Nb Pb Mb 0 W1) := HL0.out Fb Nb Pb Mb W1 lF lN lP lM hB
  have hux1 := Below.obj hB (lt_of_block HUX.out) HUX.out
  have hL1 : LoopAt W1 l D r := ⟨Below.obj hB (lt_of_block HL.out.1) HL.out.1, Below.obj hB (lt_of_block HL.out.2) HL.out.2⟩
  have HY := hidP hY
  have HLF := hidP hLf
  have HS1 := hidP hsys
  clear hsys H22 HL0 g0 hY hLf
  gi_wp2
  gi_loopw [5] (fun p wr => ∃ k : Nat, k ≤ R ∧ p = .int .i64 ((k : Int) + 1) ∧ L Fb Nb Pb Mb k wr ∧ Sys wr Sx Fb Wb Nb Rb Sb Pb Mb n A (R : Int) (b : Int) C ((loK b C k : Nat) : Int) so cp scr ∧ wr.heap[Ux]? = some (.cells #[.int .i64 (R : Int)] 3 (0, 0)) ∧ LoopAt wr l D r)
    (fun p _ => R + 1 - (intOf p).toNat)
  case atStart => exact ⟨0, Nat.zero_le _, by simp, hLk.out, by simpa [loK] using HS1.out, hux1, hL1⟩
  case round =>
    obtain ⟨k, hk, rfl, hLk1, hsys, hux2, hL2⟩ := hrel
    clear hux1 hL1 hLk HS1 HL HUX hB
    have u0 := cell_of_one hux2
    by_cases hlt : k < R
    · have hlo := loK_le b C k R (by omega) hRR (by omega)
      have H24 := hidP (round_any Sx Fb Wb Nb Rb Sb Pb Mb n A (R : Int) (b : Int) C ((loK b C k : Nat) : Int) so cp scr ((k : Int) + 1) (cK b C (k + 1)) wr hsys (by unfold cK; split <;> split <;> omega) hCn hn hA HA.out (by omega) (by omega))
      obtain ⟨ps, Dm, m, j, hnet, hperm, hsrc⟩ := hsys.net
      obtain ⟨cur, hpb, _⟩ := hnet.row
      obtain ⟨es, cl, hmb⟩ := map_block hnet.map
      have nS : ∀ (z : Nat) (o : Obj), wr.heap[z]? = some o → (∀ cur t, (t = 2 ∨ t = 80 ∨ t = 69) → o ≠ .cells cur t (0, 0)) → (∀ es cl, o ≠ .map es cl) → ¬ (z = Fb ∨ z = Nb ∨ z = Pb ∨ z = Mb ∨ z = Sb) := by
        rintro z o ho h1 h2 (e | e | e | e | e)
        · exact ne_obj ho hsys.fb (h1 _ _ (.inl rfl)) e
        · exact ne_obj ho hnet.box (h1 _ _ (.inr (.inl rfl))) e
        · exact ne_obj ho hpb (h1 _ _ (.inl rfl)) e
        · exact ne_obj ho hmb (h2 _ _) e
        · exact ne_obj ho hsrc.box (h1 _ _ (.inr (.inr rfl))) e
      have NU := hidP (nS Ux _ hux2 (fun cur t h e => by rcases h with rfl | rfl | rfl <;> simp at e) (fun es cl e => by cases e))
      have NL := hidP (nS l _ hL2.1 (fun cur t h e => by cases e) (fun es cl e => by cases e))
      have ND := hidP (nS D _ hL2.2 (fun cur t h e => by cases e) (fun es cl e => by cases e))
      have hlw := lt_of_block hL2.1
      have HLk := hidP hLk1
      have HU := hidP hux2
      have HL2 := hidP hL2
      clear hnet hperm hsrc hpb hmb nS hsys hLk1 hux2 hL2
      gi_wp2
      refine ⟨trivial, callsIn_wide.2 (H24.out.mono ?_)⟩
      rintro e W3 ⟨vo, vc, jo, jc, js, rfl, hv, hj, hjl, hjs, fv, fj, hsys3, hf3⟩
      have hux3 := hf3.obj HU.out NU.out
      have hL3 : LoopAt W3 l D r := HL2.out.frm hf3 NL.out ND.out
      have hLk3 := HLF.out Fb Nb Pb Mb k wr W3 HLk.out hf3
      have e9 : ((loK b C k : Nat) : Int) + ((cK b C (k + 1) : Nat) : Int) = ((loK b C (k + 1) : Nat) : Int) := by rw [loK_succ]; omega
      rw [e9] at hsys3
      obtain ⟨fn, tmps, assign, body, hy, hR⟩ := HY.out ⟨k, Fb, Wb, Nb, Pb, Mb, vo, vc, jo, jc, js⟩ W3 ⟨hlt, hLk3, ⟨hsys3, hux3⟩, ⟨hv, hj, hjl, hjs, fun a e => by
        rcases e with e | e
        · have := fv a e; omega
        · have := fj a e; omega⟩⟩ hL3
      have e8 : encP b C ⟨k, Fb, Wb, Nb, Pb, Mb, vo, vc, jo, jc, js⟩ = #[.agg #[.int .i64 ((k : Int) + 1), .slice vo (cK b C (k + 1)) vc, .slice jo (cK b C (k + 1)) jc]] := by simp [encP]
      rw [e8] at hy
      clear e8 e9 hv hj hjl hjs fv fj hsys3 hf3 hux3 hL3 hLk3 u0 HLk HU HL2 H24
      generalize cK b C (k + 1) = ck at hy ⊢
      gi_wp2
      refine hR.mono ?_
      rintro e W4 ⟨rfl, ⟨hLk4, hadv4⟩, hL4⟩
      gi_wp2
      go_roundw
      case rel => exact ⟨k + 1, by omega, by simp, hLk4, hadv4.sys, hadv4.ux, hL4⟩
      case measure => simp [intOf]; omega
    · obtain rfl : k = R := by omega
      gi_wp2
      go_end0
      exact ⟨⟨_, rfl⟩, ⟨Fb, Nb, Pb, Mb, hLk1⟩, hL2⟩
end Go.Proofs.Qxb6003965aFmt

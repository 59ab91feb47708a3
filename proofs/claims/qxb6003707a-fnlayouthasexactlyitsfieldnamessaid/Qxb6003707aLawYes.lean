/-
  Seat b6003707a: the law's walk, the main way.
-/
import Derived.Test.Qxb6003707aLaw
namespace Go.Proofs.Qxb6003707a
open Go.RowKit Go.WideMaps Go.Maps

def met (ss : List ByteArray) (p : ByteArray) (k : Nat) : Bool := (ss.take k).any fun s => s.toList == p.toList
theorem met_succ (ss : List ByteArray) (p : ByteArray) (k : Nat) (h : k < ss.length) : met ss p (k + 1) = (met ss p k || ((ss.getD k ByteArray.empty).toList == p.toList)) := by
  unfold met
  rw [List.take_succ_eq_append_getElem h, List.any_append, List.getD, List.getElem?_eq_getElem h]
  simp only [Option.getD_some, List.any_cons, List.any_nil, Bool.or_false]
theorem has_met {ss : List ByteArray} {D : DataW Unit} {n : Nat} (hn : n = ss.length) (h : ∀ kl, Maps.has D kl = true ↔ ∃ j, j < n ∧ keyAt ss j = kl) (p : ByteArray) : Maps.has D (.string p.data.toList) = met ss p ss.length := by
  subst hn
  rw [Bool.eq_iff_iff, h]
  unfold met
  rw [List.take_of_length_le (Nat.le_refl _), List.any_eq_true]
  constructor
  · rintro ⟨j, hj, e⟩
    refine ⟨ss[j], List.getElem_mem hj, ?_⟩
    have e3 : (ss.getD j ByteArray.empty).data.toList = p.data.toList := by simpa [keyAt] using e
    rw [List.getD, List.getElem?_eq_getElem hj] at e3
    rw [beq_iff_eq, ByteArray.toList_eq, ByteArray.toList_eq]
    exact e3
  · rintro ⟨s, hm, e⟩
    obtain ⟨j, hj, rfl⟩ := List.getElem_of_mem hm
    refine ⟨j, hj, ?_⟩
    rw [beq_iff_eq, ByteArray.toList_eq, ByteArray.toList_eq] at e
    rw [keyAt, List.getD, List.getElem?_eq_getElem hj]; simp [e]
theorem has_own {ss : List ByteArray} {D : DataW Unit} {n : Nat} (hn : n = ss.length) (h : ∀ kl, Maps.has D kl = true ↔ ∃ j, j < n ∧ keyAt ss j = kl) {k : Nat} (hk : k < ss.length) {s : ByteArray} (hs : s = ss.getD k ByteArray.empty) : Maps.has D (.string s.data.toList) = true := by
  subst hn
  rw [h]; exact ⟨k, hk, by rw [hs]; rfl⟩

set_option maxHeartbeats 2000000 in
theorem law_yes (ao bo : Option Addr) (cap cap2 : Nat) (ss : List ByteArray) (zs : List Int) (p : ByteArray) (w : World) (hc : SAt w ao ss) (hc2 : IAt w bo zs) (hn : ao = none → cap = 0) (hn2 : bo = none → cap2 = 0) (hl : ss.length ≤ maxLen) (hl2 : zs.length ≤ maxLen) (hp : p.size ≤ maxLen) (hsz : ∀ s ∈ ss, s.size ≤ maxLen)
    (hyes : ss.length + tot ss + zs.length + p.size ≤ 1048576)
    (h1 : 16 * ss.length + tot ss + 8 * zs.length + p.size ≤ 1048576) (h2 : ss.length ≤ 4096) (h3 : zs.length = ss.length) (h4 : fitsS ss 64 = true) (h5 : p.size ≤ 64) (h6 : fitsI zs 65536 = true) :
    Calls Try.prog 5 #[.slice ao ss.length cap, .slice bo zs.length cap2, .string p] w fun e w' => e = .returned (.bool true) ∧ Below w.heap.size w w' := by
  have H12 := hidP (bytes_any ao bo cap zs.length cap2 ss p w hc hl hl2 hp hsz)
  have hsm : small ss zs.length p.size = true := small_yes hyes
  have H13 := hidP (sbytes_any ao cap ss w hc (by omega) (by omega))
  have H14 := hidP (lens_any ao cap ss 64 w hc (by omega))
  have H15 := hidP (widths_any bo cap2 zs 65536 w hc2 (by omega))
  have H16 := hidP (cloneS_any ao cap ss w hc (by omega) hn)
  have HC2 := hidP hc2
  have HN2 := hidP hn2
  have HZ := hidP hsz
  have H3 := hidP h3
  have h3b : ((zs.length : Int) != (ss.length : Int)) = false := by simp [h3]
  have H6 := hidP h6
  clear hsz hc hl hl2 hp hc2 h3 hn hn2
  go_enter Try.func5, Try.ntmps5
  go_wp2_with (first | (go_at_call 12; refine H12.out.mono ?_; rintro e w2 ⟨rfl, hw2⟩; obtain rfl : w = w2 := hw2.symm) | (go_at_call 13; refine H13.out.mono ?_; rintro e w2 ⟨rfl, hw2⟩; obtain rfl : w = w2 := hw2.symm) | (go_at_call 14; refine H14.out.mono ?_; rintro e w2 ⟨rfl, hw2⟩; obtain rfl : w = w2 := hw2.symm) | (go_at_call 15; refine H15.out.mono ?_; rintro e w2 ⟨rfl, hw2⟩; obtain rfl : w = w2 := hw2.symm) | fail)
  refine H16.out.mono ?_
  rintro e wa ⟨aa, ca, rfl, hsa, hBa⟩
  clear H12 H13 H14 H15 H16
  have H17 := hidP (cloneI_any bo cap2 zs wa (HC2.out.below hBa) (by omega) HN2.out)
  have HSA := hidP hsa
  have HBA := hidP hBa
  clear hsa hBa
  go_wp2_with fail
  refine H17.out.mono ?_
  rintro e wb ⟨ab, cb, rfl, hib, hBb⟩
  have hBb' : Below w.heap.size w wb := HBA.out.trans (hBb.mono HBA.out.size)
  have hsb := HSA.out.below hBb
  clear H17 HSA HBA hBb
  have H18 := hidP (mk_any aa ab ca cb ss zs wb hsb hib H3.out.symm (by omega) H6.out HZ.out)
  have HSB := hidP hsb
  have HIB := hidP hib
  have HBB := hidP hBb'
  clear hsb hib hBb'
  go_wp2_with fail
  refine H18.out.mono ?_
  rintro e wc ⟨L, bm, D, rfl, k1, k2, k3, k4, k5⟩
  have hsc := HSB.out.below k5
  have HIC := hidP (HIB.out.below k5)
  have HBC := hidP (HBB.out.trans (k5.mono HBB.out.size))
  have HK4 := hidP k4
  clear HSB HIB HBB H18 k5 k4
  have H19 := hidP (width_any L (isum zs) wc k2)
  have H20 := hidP (sum_any ab cb zs wc HIC.out (by omega) H6.out)
  clear k2
  go_wp2_with (first | (go_at_call 19; refine H19.out.mono ?_; rintro e w2 ⟨rfl, hw2⟩; obtain rfl : wc = w2 := hw2.symm) | (go_at_call 20; refine H20.out.mono ?_; rintro e w2 ⟨rfl, hw2⟩; obtain rfl : wc = w2 := hw2.symm) | fail)
  clear H19 H20 HIC
  go_loopw [8, 9] (fun f i wr => ∃ k : Nat, k ≤ ss.length ∧ i = .int .i64 k ∧ f = .bool (met ss p k) ∧ wr = wc) (fun _ i _ => ss.length - (intOf i).toNat)
  case atStart => exact ⟨0, Nat.zero_le _, rfl, rfl, rfl⟩
  case round =>
    obtain ⟨k, hk, rfl, rfl, rfl⟩ := hrel
    by_cases hlt : k < ss.length
    · obtain ⟨b, off, rfl, hcell⟩ := hsc (by omega)
      obtain ⟨s, hs⟩ : ∃ s, s = ss.getD k ByteArray.empty := ⟨_, rfl⟩
      have hck := hcell k hlt
      rw [← hs] at hck
      have HM := hidP (met_succ ss p k hlt)
      rw [← hs] at HM
      have hsl : s.size ≤ maxLen := by rw [hs, List.getD, List.getElem?_eq_getElem hlt]; exact HZ.out _ (List.getElem_mem hlt)
      have hh := has_own H3.out HK4.out hlt hs
      have H21 := hidP (has_any L bm zs.length D s wr k1 k3 hsl)
      rw [hh] at H21
      clear hs hcell hsc hh k1 k3 hsl
      cases hsp : (s.toList == p.toList)
      all_goals
        go_wp2_with (go_at_call 21; refine H21.out.mono ?_; rintro e w2 ⟨rfl, hw2⟩; obtain rfl : wr = w2 := hw2.symm)
        go_roundw
        case rel => exact ⟨k + 1, by omega, by go_num, congrArg Value.bool (by rw [HM.out, hsp]; simp), trivial⟩
        case measure => simp [intOf]; omega
    · have hkl : k = ss.length := by omega
      subst hkl
      have H21 := hidP (has_any L bm zs.length D p wr k1 k3 (by unfold maxLen; omega))
      rw [has_met H3.out HK4.out p] at H21
      clear k1 k3 hsc
      go_wp2_with (go_at_call 21; refine H21.out.mono ?_; rintro e w2 ⟨rfl, hw2⟩; obtain rfl : wr = w2 := hw2.symm)
      go_ret
      exact ⟨by simp, HBC.out⟩
end Go.Proofs.Qxb6003707a

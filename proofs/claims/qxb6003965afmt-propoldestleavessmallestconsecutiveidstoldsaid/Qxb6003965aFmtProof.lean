/-
  Seat b6003965aF: the told card (after the guide's LabelTold.lean, HexbadSeven.lean).
-/
import Derived.Test.Qxb6003965aFmtLawM
import Derived.Test.Qxb6003965aFmtCards
import Derived.ProofKit
import Derived.Stop.JoinedAt
import Derived.Stop.JoinedTold
import Derived.SizedLaws
import Derived.SevenToldRow
import Derived.Carry
import Derived.Lib.SmallJoins
namespace Go.Proofs.Qxb6003965aFmt
open Go.ChangeShapes Go.WideShapes Go.ChangeAt Go.RowKit Go.Kit Go.Joins
open Go.Extern.Stop Go.Stop Go.Extern

theorem law_all (F : Interp) (n A rr b C : Int) (vo : Option Addr) (vc : Nat) (scr : List Int) (w : World) (hF : F.answers w.tape) (hU : UAt w vo scr) (hnil : vo = none → scr.length = 0 ∧ vc = 0) :
    Calls Tryf.prog 4 #[.agg #[.int .i64 n, .int .i64 A, .int .i64 rr, .int .i64 b, .int .i64 C], .slice vo scr.length vc] w (Yes w) := by
  by_cases h1 : 1048576 < rr
  · exact out_rounds n A rr b C vo scr.length vc w h1
  by_cases h2 : 1048576 < n
  · exact out_nodes n A rr b C vo scr.length vc w (by omega) h2
  by_cases h3 : 1048576 < scr.length
  · exact out_len n A rr b C vo scr.length vc w (by omega) (by omega) h3
  by_cases h4 : Okay n A rr b C
  · have h4' := h4
    obtain ⟨o1, o2, o3, o4, o5, o6, o7, o8⟩ := h4'
    obtain ⟨n', rfl⟩ : ∃ n' : Nat, n = (n' : Int) := ⟨n.toNat, by omega⟩
    obtain ⟨r', rfl⟩ : ∃ r' : Nat, rr = (r' : Int) := ⟨rr.toNat, by omega⟩
    obtain ⟨b', rfl⟩ : ∃ b' : Nat, b = (b' : Int) := ⟨b.toNat, by omega⟩
    obtain ⟨c', rfl⟩ : ∃ c' : Nat, C = (c' : Int) := ⟨C.toNat, by omega⟩
    exact law_main n' A r' b' c' vo vc scr w h4 (by omega) (by omega) (by omega) hU hnil
  · exact out_bad F n A rr b C vo scr.length vc w (by omega) (by omega) (by omega) hF h4

theorem own : ownKnob Tryf.prog.godebug = none := by kernel_rfl
theorem laidOut : laidOutB Tryf.pinned.checked.prog = true := by kernel_rfl
theorem cells30 : Tryf.prog.cellsOf 30 = 5 := by kernel_rfl
theorem cells23 : Tryf.prog.cellsOf 23 = 2 := by kernel_rfl
theorem cells3 : Tryf.prog.cellsOf 3 = 1 := by kernel_rfl
theorem cells49 : Tryf.prog.cellsOf 49 = 1 := by kernel_rfl

theorem array5 {α : Type} {cs : Array α} (h : cs.size = 5) : ∃ a b c d e, cs = #[a, b, c, d, e] := by
  obtain ⟨l⟩ := cs
  match l, h with
  | [a, b, c, d, e], _ => exact ⟨a, b, c, d, e, rfl⟩

set_option maxRecDepth 100000 in
/-- The settings, opened. -/
theorem open_settings {H : Type} {enc : TypeId × Value → H} {W : World} {base b0 : Nat} {spare : Nat → Bool} {held : Bool} {r : Reach} {v : Value} {d : DataW H} {p : List MemPlace} (hv : Value.okWide Tryf.prog W r b0 30 v) (h : DataW.Trod enc Tryf.prog W base spare held 30 v d p) :
    ∃ n A rr b C, v = .agg #[.int .i64 n, .int .i64 A, .int .i64 rr, .int .i64 b, .int .i64 C] := by
  obtain ⟨cs, rfl, hsz⟩ := okWide_struct Tryf.underlying30 hv
  rw [cells30] at hsz
  obtain ⟨c0, c1, c2, c3, c4, rfl⟩ := array5 hsz
  obtain ⟨fuel, hf⟩ := h
  obtain ⟨y0, y1, y2, y3, m, _, _, t0, t1, t2, t3⟩ := trod_struct4 Tryf.underlying30 hf
  obtain ⟨z0, z1, m', _, _, s0, s1⟩ := trod_struct2 Tryf.underlying23 t0
  simp [Value.cells, cells23, cells3] at t1 t2 t3 s0 s1
  obtain ⟨n, hn, _⟩ := DataW.trod_int Tryf.underlying3 s0
  obtain ⟨A, hA, _⟩ := DataW.trod_int Tryf.underlying3 s1
  obtain ⟨rr, hr, _⟩ := DataW.trod_int Tryf.underlying3 t1
  obtain ⟨b, hb, _⟩ := DataW.trod_int Tryf.underlying3 t2
  obtain ⟨C, hC, _⟩ := DataW.trod_int Tryf.underlying3 t3
  simp at hn hA hr hb hC
  exact ⟨n, A, rr, b, C, by rw [hn, hA, hr, hb, hC]⟩

set_option maxRecDepth 100000 in
/-- The script, opened. -/
theorem open_script {H : Type} {enc : TypeId × Value → H} {W : World} {b0 : Nat} {r : Reach} {v : Value} {d : DataW H} {p : List MemPlace} (hv : Value.okWide Tryf.prog W r b0 31 v) (h : DataW.Trod enc Tryf.prog W 0 (fun _ => true) true 31 v d p) :
    ∃ vo vc scr, v = .slice vo scr.length vc ∧ UAt W vo scr ∧ (vo = none → scr.length = 0 ∧ vc = 0) := by
  obtain ⟨a0, len, cap, rfl⟩ := okWide_slice Tryf.underlying31 hv
  obtain ⟨fuel, hf⟩ := h
  rcases open_ints Tryf.underlying31 Tryf.underlying49 cells49 hf with ⟨hcs, _⟩ | ⟨a, len', cap', zs, hcs, _, hl, hm, hz, _, hcell, hwz⟩
  · simp [Value.cells] at hcs
    obtain ⟨rfl, rfl, rfl⟩ := hcs
    exact ⟨none, 0, [], rfl, fun h => absurd h (by simp), fun _ => ⟨rfl, rfl⟩⟩
  · simp [Value.cells] at hcs
    obtain ⟨rfl, rfl, rfl⟩ := hcs
    simp only [if_true] at hz
    have e : (zs.take len).length = len := by rw [List.length_take]; omega
    refine ⟨some a, cap, zs.take len, by rw [e], fun h0 => ?_, fun h => by cases h⟩
    rw [e] at h0
    obtain ⟨b, off, spot⟩ := a
    have hspot : spot = none := by simpa [Addr.add] using World.cell?_spot (hcell 0 (by omega))
    subst hspot
    refine ⟨b, off, rfl, fun j hj => ?_⟩
    rw [e] at hj
    have hg : (zs.take len).getD j 0 = zs.getD j 0 := by simp [List.getD, hj]
    rw [hg]
    have hmem : zs.getD j 0 ∈ zs := by
      rw [List.getD, List.getElem?_eq_getElem (show j < zs.length by omega)]; exact List.getElem_mem _
    have h5 := hwz _ hmem
    have e1 : IntKind.u64.min = 0 := rfl
    have e2 : IntKind.u64.max = 18446744073709551615 := rfl
    have h6 : 0 ≤ zs.getD j 0 ∧ zs.getD j 0 ≤ 18446744073709551615 := by simpa [Lit.wf, e1, e2] using h5
    refine ⟨?_, h6⟩
    rw [← add_plain]; exact hcell j (by omega)

set_option maxRecDepth 100000 in
theorem lifted (os : Os) (started : os.Started) (H : Type) (enc : TypeId × Value → H) :
    ReturnsInTold none {} Tryf.checked os 4 .any Input.okWide ((OpenSpec.ofChange Rows.propOldestLeavesSmallestConsecutiveIDsSpec).preRow enc Tryf.prog Tryf.f4 [] false []) (fun F => ((OpenSpec.ofChange Rows.propOldestLeavesSmallestConsecutiveIDsSpec).at F).post enc Tryf.prog Tryf.f4 false true false false) (aloneAtReturn Tryf.prog) nothingAlways := by
  refine returnsInTold_of_row (C := Tryf.checked) (s := OpenSpec.ofChange Rows.propOldestLeavesSmallestConsecutiveIDsSpec) (by kernel_rfl) own started (by kernel_rfl) Tryf.func4
    (OpenSpec.witness_stopped (enc := enc) (C := Tryf.checked) false ⟨#[], #[.agg #[.int .i64 0, .int .i64 0, .int .i64 0, .int .i64 0, .int .i64 0], .slice none 0 0], []⟩ 8 (by kernel_rfl) (by kernel_rfl) (by kernel_rfl) (by kernel_rfl)) ?_
  intro F W base args ds gs before _ hF hval0 hW _ _ hsz _ _
  have hval : ∀ (j : Nat) t v, Tryf.f4.params[j]? = some t → args[j]? = some v → Value.okWide Tryf.prog W .any base t v := hval0
  have hW' := hW
  obtain ⟨p, q, hA0, hV, rfl, hfz, hnd⟩ := hW
  have hA : DataW.TrodAll enc Tryf.prog W 0 (fun _ => true) true Tryf.f4.params.toList args.toList ds p := hA0
  rw [Tryf.params4] at hA hval
  obtain ⟨v0, v1, d0, d1, p0, p1, rfl, rfl, rfl, h0, h1⟩ := trodAll_two hA
  obtain ⟨rfl, rfl⟩ := trodVars_none hV
  simp only [List.append_nil] at hW'
  have hlt : ∀ x ∈ p0 ++ p1, x.block < W.heap.size := fun x hx => by simpa using hW'.lt x hx
  obtain ⟨n, A, rr, b, C, rfl⟩ := open_settings (hval 0 30 v0 rfl rfl) h0
  obtain ⟨vo, vc, scr, rfl, hU, hnil⟩ := open_script (hval 1 31 v1 rfl rfl) h1
  clear hA0 hval0
  refine (law_all F.told n A rr b C vo vc scr W hF hU hnil).mono fun e W' ⟨he, bel⟩ => ?_
  subst he
  refine ⟨_, rfl, _, _, _, [], p0 ++ p1, [], hW', ?_, ?_, rfl, bel.frame _, fun h => by cases h⟩
  · exact trodAll_mk1 (shut_bool Tryf.underlying4 _)
  · exact trodAll_mk2 (Below.trod laidOut (by kernel_rfl) (of_decide_eq_true (by kernel_rfl)) h0 bel (fun x hx => hlt x (List.mem_append_left _ hx))) (Below.trod laidOut (by kernel_rfl) (of_decide_eq_true (by kernel_rfl)) h1 bel (fun x hx => hlt x (List.mem_append_right _ hx)))

theorem stops : Tryf.pinned.checked.prog.stops = ["fmt.errorf"] := by kernel_rfl
theorem stopKnobs : Tryf.pinned.checked.prog.stopKnobs = [] := by kernel_rfl
theorem quiet (os : Os) : Stop.quiet Tryf.pinned.checked.prog os := by
  intro k hk
  rw [stopKnobs] at hk
  cases hk

theorem propOldest_proved : Rows.PropOldestLeavesSmallestConsecutiveIDsToldSaid :=
  Claim7.holds_of_told_any 4 Tryf.f4 "fmt.errorf" [] [] _ _ _ (by kernel_rfl) rfl rfl rfl laidOut (by kernel_rfl) rfl ⟨rfl, rfl, rfl, rfl, rfl, rfl, rfl⟩ rfl rfl (by kernel_rfl) (by kernel_rfl) Tryf.func4 (by kernel_rfl)
    (of_decide_eq_true (by kernel_rfl)) (of_decide_eq_true (by kernel_rfl)) stops.symm rfl stopKnobs.symm (by kernel_rfl)
    (by kernel_rfl) (by kernel_rfl) (by kernel_rfl) (by kernel_rfl) (by kernel_rfl) (by kernel_rfl) (by kernel_rfl) (by kernel_rfl) (by kernel_rfl) rfl (by kernel_rfl) rfl rfl
    rfl rfl
    rfl (by kernel_rfl) (by kernel_rfl) (by kernel_rfl) (by decide) (by kernel_rfl)
    (OpenClaim.moreEntering_of (by kernel_rfl) (by kernel_rfl) (by kernel_rfl) (by kernel_rfl) (by kernel_rfl) (by kernel_rfl) (by kernel_rfl) (by kernel_rfl) (by kernel_rfl) (by kernel_rfl))
    ⟨_, WideRow.started_initial, quiet _⟩
    (fun os started _ H enc _ => lifted os started H enc)
end Go.Proofs.Qxb6003965aFmt

/-
  Seat b6003965aF: zzRng, Oldest, and what its closure starts with.
-/
import Derived.Test.Qxb6003965aFmtOld
namespace Go.Proofs.Qxb6003965aFmt
open Go.RowKit Go.WideMaps Go.Maps

/-- What Oldest's closure makes. -/
def Started (w : World) (Sx Rb Sb : Nat) (n : Nat) (A rr b : Int) (C : Nat) (so : Option Addr) (cp : Nat) (scr : List Int) (e : Ending) (w' : World) : Prop :=
  ∃ Fb Wb Nb Pb Mb, e = .returned (.func (.func 24) #[] #[.pointer (some ⟨Sx, 0, none⟩), .pointer (some ⟨Fb, 0, none⟩), .pointer (some ⟨Wb, 0, none⟩)]) ∧ Sys w' Sx Fb Wb Nb Rb Sb Pb Mb n A rr b C 0 so cp scr ∧ Below w.heap.size w w' ∧
    w.heap.size ≤ Fb ∧ w.heap.size ≤ Wb ∧ w.heap.size ≤ Nb ∧ w.heap.size ≤ Pb ∧ w.heap.size ≤ Mb

set_option maxRecDepth 100000 in
set_option maxHeartbeats 400000 in
theorem start_any (Sx Rx Rb Sb : Nat) (n : Nat) (A rr b : Int) (C : Nat) (so : Option Addr) (cp : Nat) (scr : List Int) (i : Nat) (w : World) (hx : w.heap[Sx]? = some (.cells #[.int .i64 (n : Int), .int .i64 A, .int .i64 rr, .int .i64 b, .int .i64 (C : Int)] 30 (0, 0))) (hrx : w.heap[Rx]? = some (.cells #[.pointer (some ⟨Rb, 0, none⟩)] 37 (0, 0)))
    (hs : Src w Sb so cp scr i) (hR : RandAt w Rb Sb) (hn : n ≤ 1048576) :
    Calls Tryf.prog 22 #[.pointer (some ⟨Sx, 0, none⟩), .pointer (some ⟨Rx, 0, none⟩)] w (Started w Sx Rb Sb n A rr b C so cp scr) := by
  obtain ⟨c0, c1, c2, c3, c4⟩ := box5 hx
  have r0 := cell_of_one hrx
  have H23 := hidP (newnet_any n A Rb w hn)
  have HX := hidP hx
  have HS := hidP hs
  have HR := hidP hR
  clear hx hrx hs hR
  go_enter Tryf.func22, Tryf.ntmps22
  go_wp2_with fail
  refine H23.out.mono ?_
  rintro e w1 ⟨Nb, Pb, Mb, rfl, hnet, lN, lP, lM, hB⟩
  have F1 : Frm (fun _ => False) w w1 := Frm.new hB
  have hsz := hB.size
  have e1 : (w1.alloc (.cells #[.pointer (some ⟨Nb, 0, none⟩)] 58)).heap.size = w1.heap.size + 1 := by simp
  have F2 : Frm (fun _ => False) w1 ((w1.alloc (.cells #[.pointer (some ⟨Nb, 0, none⟩)] 58)).alloc (.cells #[.int .i64 0] 2)) := ((Frm.refl _ _).alloc _).alloc _
  have F12 := F1.trans F2
  have hpl := hnet.row.lt
  have hfb := heap_alloc_new (w1.alloc (.cells #[.pointer (some ⟨Nb, 0, none⟩)] 58)) (.cells #[.int .i64 0] 2)
  rw [e1] at hfb
  have R : Hid (Started w Sx Rb Sb n A rr b C so cp scr (.returned (.func (.func 24) #[] #[.pointer (some ⟨Sx, 0, none⟩), .pointer (some ⟨w1.heap.size + 1, 0, none⟩), .pointer (some ⟨w1.heap.size, 0, none⟩)])) ((w1.alloc (.cells #[.pointer (some ⟨Nb, 0, none⟩)] 58)).alloc (.cells #[.int .i64 0] 2))) :=
    ⟨w1.heap.size + 1, w1.heap.size, Nb, Pb, Mb, rfl, ⟨F12.obj HX.out id, hfb, heapA (heap_alloc_new w1 _), ⟨consec 0 n, _, _, i, by simpa using hnet.frm F2 id id id, List.Perm.refl _, HS.out.frm F12 id (fun _ _ _ _ => id)⟩, F12.obj HR.out id, by omega⟩, (hB.alloc hsz _).alloc (by omega) _, by omega, by omega, lN, lP, lM⟩
  clear hnet hB F1 F2 F12 hfb HX HS HR c0 c1 c2 c3 c4 r0 H23
  go_wp2
  go_ret
  exact R.out

set_option maxHeartbeats 400000 in
theorem draw_any (rr : Int) (Sx Rx : Nat) (w : World) :
    Calls Tryf.prog 21 #[.int .i64 rr, .func (.func 22) #[] #[.pointer (some ⟨Sx, 0, none⟩), .pointer (some ⟨Rx, 0, none⟩)]] w fun e w' => e = .returned (.func (.func 40) #[] #[.pointer (some ⟨w.heap.size + 1, 0, none⟩), .pointer (some ⟨w.heap.size, 0, none⟩)]) ∧ w' = (w.alloc (.cells #[.int .i64 rr] 3)).alloc (.cells #[.func (.func 22) #[] #[.pointer (some ⟨Sx, 0, none⟩), .pointer (some ⟨Rx, 0, none⟩)]] 64) := by
  go_enter Tryf.func21, Tryf.ntmps21
  go_wp2
  go_ret
  exact ⟨rfl, rfl⟩

theorem Tryf.info49 : (Tryf.prog.info? 49).map (fun i => (i.zero, i.size, i.bytes)) = some (some (.int .u64 0), 1, 8) := by kernel_rfl
/-- A slice of uint64 that came in, or is the call's own. -/
def Cloned (w : World) (scr : List Int) (e : Ending) (w' : World) : Prop :=
  ∃ so cp, e = .returned (.slice so scr.length cp) ∧ UAt w' so scr ∧ Below w.heap.size w w'
theorem UAt.of_owns {w : World} {B n : Nat} {v : Value} {scr : List Int} (h : w.ownsRow B 49 1 v n (scr.map (Value.int .u64))) (hb : ∀ j, j < scr.length → 0 ≤ scr.getD j 0 ∧ scr.getD j 0 ≤ 18446744073709551615) : ∃ so cp, v = .slice so scr.length cp ∧ UAt w so scr := by
  have hl : scr.length = n := by have := h.1; simpa using this
  rcases h.2 with ⟨rfl, h0⟩ | ⟨g, cap, cur, rfl, h1, h2, h3, h4, h5, h6⟩
  · exact ⟨none, 0, by rw [hl, h0], fun h => by omega⟩
  · refine ⟨some ⟨g, 0, none⟩, cap, by rw [hl], fun _ => ⟨g, 0, rfl, fun j hj => ⟨?_, hb j hj⟩⟩⟩
    rw [Nat.zero_add, cell_of_row _ _ _ _ _ _ h2]
    have h7 : (cur.toList.take (n * 1))[j]? = (scr.map (Value.int .u64))[j]? := by rw [h6]
    rw [List.getElem?_take_of_lt (by omega), Array.getElem?_toList] at h7
    rw [h7, List.getElem?_map, List.getD, List.getElem?_eq_getElem hj]; rfl
theorem addr_add (b off j : Nat) : Addr.add ⟨b, off, none⟩ j = ⟨b, off + j, none⟩ := by
  cases j <;> simp [Addr.add]

set_option maxRecDepth 100000 in
set_option maxHeartbeats 400000 in
theorem clone_any (vo : Option Addr) (vc : Nat) (scr : List Int) (w : World) (h : UAt w vo scr) (hnil : vo = none → scr.length = 0 ∧ vc = 0) (hl : scr.length ≤ 1048576) :
    Calls Tryf.prog 30 #[.slice vo scr.length vc] w (Cloned w scr) := by
  have heq := fun w a n c => Lib.run_eql_slice_nil (P := Tryf.prog) w 31 49 a n c 0 0 Tryf.underlying31
  cases vo with
  | none =>
    obtain ⟨h0, rfl⟩ := hnil rfl
    rw [h0]
    go_enter Tryf.func30, Tryf.ntmps30
    go_wp2
    go_ret
    exact ⟨none, 0, by rw [h0]; rfl, fun h => by omega, Below.refl _ _⟩
  | some ad =>
    obtain ⟨i0, hi, hz0, hz1, hz2⟩ := info_parts Tryf.info49
    have hb : ∀ j, j < scr.length → 0 ≤ scr.getD j 0 ∧ scr.getD j 0 ≤ 18446744073709551615 := fun j hj => by
      obtain ⟨b, off, e, hc⟩ := h (by omega); exact (hc j hj).2
    have hc : ∀ j u, (scr.map (Value.int .u64))[j]? = some u → (w.alloc (.cells #[] 49)).cell? (ad.add j) = some u := by
      intro j u hu
      have hj : j < scr.length := by
        have := (List.getElem?_eq_some_iff.1 hu).1; simpa using this
      obtain ⟨b, off, e, hc⟩ := h (by omega)
      cases e
      rw [addr_add]
      have h1 := (hc j hj).1
      rw [List.getElem?_map, List.getElem?_eq_getElem hj] at hu
      simp at hu
      rw [((Frm.refl (fun _ => False) w).alloc (.cells #[] 49)).cell h1 id, ← hu, List.getD, List.getElem?_eq_getElem hj]; rfl
    have hown : (w.alloc (.cells #[] 49)).ownsRow w.heap.size 49 1 (.slice (some ⟨w.heap.size, 0, none⟩) 0 0) 0 [] := ⟨rfl, .inr ⟨_, _, #[], rfl, Nat.le_refl _, heap_alloc_new w _, Nat.le_refl _, by unfold maxLen; omega, rfl, rfl⟩⟩
    have HC := hidP hc
    have HB := hidP hb
    have HO := hidP hown
    clear h hnil hc hb hown
    go_enter Tryf.func30, Tryf.ntmps30
    go_wp2_with (first
      | (at_builtin; refine wpList_append_own _ rfl _ _ 31 rfl w.heap.size 49 i0 (.int .u64 0) 1 8 Tryf.underlying31 hi hz0 hz1 hz2 rfl (by decide) _ _ _ rfl HO.out ad scr.length vc (scr.map (Value.int .u64)) rfl (by simp) HC.out (ints_oneCell .u64 scr) (by unfold maxLen; omega) (by omega) (by simp) ?_; intro v' w1 hown' hgrow _)
      | go_in)
    obtain ⟨so, cp, rfl, hu⟩ := UAt.of_owns (by simpa using hown') HB.out
    go_ret
    exact ⟨so, cp, rfl, hu, (((Below.refl _ _).alloc (Nat.le_refl _) _).grown hgrow (by simp) (fun k e => by cases e; exact Nat.le_refl _))⟩

/-- What zzRng leaves: a Rand over a source that holds the script. -/
def Made (w : World) (scr : List Int) (e : Ending) (w' : World) : Prop :=
  ∃ Rb Sb so cp, e = .returned (.pointer (some ⟨Rb, 0, none⟩)) ∧ RandAt w' Rb Sb ∧ Src w' Sb so cp scr 0 ∧ Below w.heap.size w w' ∧ w.heap.size ≤ Sb ∧ w.heap.size ≤ Rb

set_option maxHeartbeats 400000 in
theorem new_any (Sb : Nat) (w : World) :
    Calls Tryf.prog 29 #[.iface 66 (.pointer (some ⟨Sb, 0, none⟩))] w fun e w' => e = .returned (.pointer (some ⟨w.heap.size, 0, none⟩)) ∧ w' = w.alloc (.cells #[.iface 66 (.pointer (some ⟨Sb, 0, none⟩))] 88) := by
  go_enter Tryf.func29, Tryf.ntmps29
  go_wp2
  go_ret
  exact ⟨rfl, rfl⟩

set_option maxRecDepth 100000 in
set_option maxHeartbeats 400000 in
theorem rng_any (vo : Option Addr) (vc : Nat) (scr : List Int) (w : World) (h : UAt w vo scr) (hnil : vo = none → scr.length = 0 ∧ vc = 0) (hl : scr.length ≤ 1048576) :
    Calls Tryf.prog 11 #[.slice vo scr.length vc] w (Made w scr) := by
  have H30 := hidP (clone_any vo vc scr w h hnil hl)
  clear h hnil
  go_enter Tryf.func11, Tryf.ntmps11
  go_wp2_with fail
  refine H30.out.mono ?_
  rintro e w1 ⟨so, cp, rfl, hu, hB⟩
  have hsz := hB.size
  have F : Frm (fun _ => False) w1 ((w1.alloc (.cells #[.slice so scr.length cp, .int .i64 0] 69)).alloc (.cells #[.iface 66 (.pointer (some ⟨w1.heap.size, 0, none⟩))] 88)) := ((Frm.refl _ _).alloc _).alloc _
  have e1 : (w1.alloc (.cells #[.slice so scr.length cp, .int .i64 0] 69)).heap.size = w1.heap.size + 1 := by simp
  have hr := heap_alloc_new (w1.alloc (.cells #[.slice so scr.length cp, .int .i64 0] 69)) (.cells #[.iface 66 (.pointer (some ⟨w1.heap.size, 0, none⟩))] 88)
  rw [e1] at hr
  have R : Hid (Made w scr (.returned (.pointer (some ⟨w1.heap.size + 1, 0, none⟩))) ((w1.alloc (.cells #[.slice so scr.length cp, .int .i64 0] 69)).alloc (.cells #[.iface 66 (.pointer (some ⟨w1.heap.size, 0, none⟩))] 88))) :=
    ⟨_, w1.heap.size, so, cp, rfl, hr, ⟨heapA (heap_alloc_new w1 _), fun h0 => by
      obtain ⟨b, off, e, hc⟩ := hu h0
      exact ⟨b, off, e, fun j hj => ⟨F.cell (hc j hj).1 id, (hc j hj).2⟩⟩, Nat.zero_le _, hl⟩, (hB.alloc hsz _).alloc (by omega) _, hsz, by omega⟩
  clear hu hB F hr H30
  go_wp2_with (go_at_call 29; refine (new_any _ _).mono ?_; rintro e w2 ⟨rfl, rfl⟩)
  go_ret
  exact R.out

/-- What Oldest leaves. -/
def Olded (w : World) (Rb : Nat) (n A rr b C : Int) (e : Ending) (w' : World) : Prop :=
  ∃ Sx Rx Gx Ux, e = .returned (.tuple #[.func (.func 40) #[] #[.pointer (some ⟨Gx, 0, none⟩), .pointer (some ⟨Ux, 0, none⟩)], .nilIface]) ∧
    w'.heap[Sx]? = some (.cells #[.int .i64 n, .int .i64 A, .int .i64 rr, .int .i64 b, .int .i64 C] 30 (0, 0)) ∧ w'.heap[Rx]? = some (.cells #[.pointer (some ⟨Rb, 0, none⟩)] 37 (0, 0)) ∧
    w'.heap[Ux]? = some (.cells #[.int .i64 rr] 3 (0, 0)) ∧ w'.heap[Gx]? = some (.cells #[.func (.func 22) #[] #[.pointer (some ⟨Sx, 0, none⟩), .pointer (some ⟨Rx, 0, none⟩)]] 64 (0, 0)) ∧
    Below w.heap.size w w' ∧ w.heap.size ≤ Sx ∧ w.heap.size ≤ Rx ∧ w.heap.size ≤ Gx ∧ w.heap.size ≤ Ux

set_option maxRecDepth 100000 in
set_option maxHeartbeats 1000000 in
theorem oldest_any (Rb : Nat) (n A rr b C : Int) (w : World) (hok : Okay n A rr b C) :
    Calls Tryf.prog 10 #[.agg #[.int .i64 n, .int .i64 A, .int .i64 rr, .int .i64 b, .int .i64 C], .pointer (some ⟨Rb, 0, none⟩)] w (Olded w Rb n A rr b C) := by
  have H20 := fun w => hidP (check_ok n A rr b C w hok)
  clear hok
  go_enter Tryf.func10, Tryf.ntmps10
  go_wp2_with fail
  refine (H20 _).out.mono ?_
  rintro e w1 ⟨rfl, hB⟩
  have e1 : (w.alloc (.cells #[.int .i64 n, .int .i64 A, .int .i64 rr, .int .i64 b, .int .i64 C] 30)).heap.size = w.heap.size + 1 := by simp
  have e2 : ((w.alloc (.cells #[.int .i64 n, .int .i64 A, .int .i64 rr, .int .i64 b, .int .i64 C] 30)).alloc (.cells #[.pointer (some ⟨Rb, 0, none⟩)] 37)).heap.size = w.heap.size + 1 + 1 := by simp
  have hsz := hB.size
  rw [e2] at hsz
  have hx := Below.obj hB (by rw [e2]; omega) (heapA (heap_alloc_new w (.cells #[.int .i64 n, .int .i64 A, .int .i64 rr, .int .i64 b, .int .i64 C] 30)))
  have hr := Below.obj hB (k := w.heap.size + 1) (by rw [e2]; omega) (by have := heap_alloc_new (w.alloc (.cells #[.int .i64 n, .int .i64 A, .int .i64 rr, .int .i64 b, .int .i64 C] 30)) (.cells #[.pointer (some ⟨Rb, 0, none⟩)] 37); rw [e1] at this; exact this)
  have B1 : Below w.heap.size w w1 := (((Below.refl _ _).alloc (Nat.le_refl _) _).alloc (by omega) _).trans (hB.mono (by omega))
  have F : Frm (fun _ => False) w1 ((w1.alloc (.cells #[.int .i64 rr] 3)).alloc (.cells #[.func (.func 22) #[] #[.pointer (some ⟨w.heap.size, 0, none⟩), .pointer (some ⟨w.heap.size + 1, 0, none⟩)]] 64)) := ((Frm.refl _ _).alloc _).alloc _
  have e3 : (w1.alloc (.cells #[.int .i64 rr] 3)).heap.size = w1.heap.size + 1 := by simp
  have hg := heap_alloc_new (w1.alloc (.cells #[.int .i64 rr] 3)) (.cells #[.func (.func 22) #[] #[.pointer (some ⟨w.heap.size, 0, none⟩), .pointer (some ⟨w.heap.size + 1, 0, none⟩)]] 64)
  rw [e3] at hg
  have R : Hid (Olded w Rb n A rr b C (.returned (.tuple #[.func (.func 40) #[] #[.pointer (some ⟨w1.heap.size + 1, 0, none⟩), .pointer (some ⟨w1.heap.size, 0, none⟩)], .nilIface])) ((w1.alloc (.cells #[.int .i64 rr] 3)).alloc (.cells #[.func (.func 22) #[] #[.pointer (some ⟨w.heap.size, 0, none⟩), .pointer (some ⟨w.heap.size + 1, 0, none⟩)]] 64))) :=
    ⟨w.heap.size, w.heap.size + 1, w1.heap.size + 1, w1.heap.size, rfl, F.obj hx id, F.obj hr id, heapA (heap_alloc_new w1 _), hg, (B1.alloc (by omega) _).alloc (by omega) _, Nat.le_refl _, by omega, by omega, by omega⟩
  have c2 := (box5 hx).2.2.1
  clear hB hx hr B1 F hg H20
  go_wp2_with (go_at_call 21; refine (draw_any _ _ _ _).mono ?_; rintro e w2 ⟨rfl, rfl⟩)
  refine bodyPost_ret (v := .tuple #[.func (.func 40) #[] #[.pointer (some ⟨w1.heap.size + 1, 0, none⟩), .pointer (some ⟨w1.heap.size, 0, none⟩)], .nilIface]) ?_ rfl R.out
  simp [results, Tryf.f10, go_sem]
end Go.Proofs.Qxb6003965aFmt

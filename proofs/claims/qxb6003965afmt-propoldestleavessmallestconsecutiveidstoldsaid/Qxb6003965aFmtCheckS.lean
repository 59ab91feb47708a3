/-
  Seat b6003965aF: Settings.check, ZZsettingsCheck.
-/
import Derived.Test.Qxb6003965aFmtCheckW
namespace Go.Proofs.Qxb6003965aFmt
open Go.RowKit Go.Extern.Stop Go.Stop Go.Extern

theorem bcell {W w1 : World} (hb : Below W.heap.size W w1) : ∀ b o, b < W.heap.size → w1.cell? ⟨b, o, none⟩ = W.cell? ⟨b, o, none⟩ :=
  fun b o h => hb.cell (p := ⟨b, o, none⟩) h

/-- The cells of a block of five. -/
theorem box5 {W : World} {B : Nat} {a b c d e : Value} {t : TypeId} (h : W.heap[B]? = some (.cells #[a, b, c, d, e] t (0, 0))) :
    W.cell? ⟨B, 0, none⟩ = some a ∧ W.cell? ⟨B, 1, none⟩ = some b ∧ W.cell? ⟨B, 2, none⟩ = some c ∧ W.cell? ⟨B, 3, none⟩ = some d ∧ W.cell? ⟨B, 4, none⟩ = some e :=
  ⟨by rw [cell_of_row _ _ _ _ _ _ h]; rfl, by rw [cell_of_row _ _ _ _ _ _ h]; rfl, by rw [cell_of_row _ _ _ _ _ _ h]; rfl, by rw [cell_of_row _ _ _ _ _ _ h]; rfl, by rw [cell_of_row _ _ _ _ _ _ h]; rfl⟩
theorem Below.obj {B k : Nat} {w w' : World} {o : Obj} (h : Below B w w') (hk : k < B) (ho : w.heap[k]? = some o) : w'.heap[k]? = some o := (h.block k hk).trans ho

/-- The settings are let by. -/
def Okay (n A r b c : Int) : Prop := 1 ≤ n ∧ n ≤ 2147483647 ∧ 1 ≤ A ∧ 1 ≤ r ∧ 0 ≤ b ∧ 0 ≤ c ∧ c < n ∧ (A < c → c ≤ A * (n - c))

theorem joins_ok (n A c : Int) (w : World) (hn : n ≤ 2147483647) (hA : 1 ≤ A) (hc : c < n) (h : A < c → c ≤ A * (n - c)) : Calls Tryf.prog 18 #[.agg #[.int .i64 n, .int .i64 A], .int .i64 c] w (Passes w) := by
  by_cases h1 : A < c
  · exact joins_ok2 n A c w hn hA hc h1 (h h1)
  · exact joins_ok1 n A c w (by omega)

set_option maxHeartbeats 1000000 in
theorem check_ok (n A r b c : Int) (w : World) (h : Okay n A r b c) :
    Calls Tryf.prog 20 #[.agg #[.int .i64 n, .int .i64 A, .int .i64 r, .int .i64 b, .int .i64 c]] w (Passes w) := by
  obtain ⟨h1, h2, h3, h4, h5, h6, h7, h8⟩ := h
  have H37 := fun w => hidP (model_ok n A w h1 h2 h3)
  have H38 := fun w => hidP (rounds_ok r w h4)
  have H39 := fun w => hidP (boot_ok b w h5)
  have H18 := fun w => hidP (joins_ok n A c w h2 h3 h7 h8)
  clear h8
  have hx0 := heap_alloc_new w (.cells #[.int .i64 n, .int .i64 A, .int .i64 r, .int .i64 b, .int .i64 c] 30)
  have HW := hidP ((Below.refl w.heap.size w).alloc (Nat.le_refl _) (.cells #[.int .i64 n, .int .i64 A, .int .i64 r, .int .i64 b, .int .i64 c] 30))
  have hs0 : w.heap.size < (w.alloc (.cells #[.int .i64 n, .int .i64 A, .int .i64 r, .int .i64 b, .int .i64 c] 30)).heap.size := by simp
  have HX0 := hidP hx0
  have HS0 := hidP hs0
  clear hx0 hs0
  go_enter Tryf.func20, Tryf.ntmps20
  go_wp2_with fail
  refine (H37 _).out.mono ?_
  rintro e w1 ⟨rfl, hb1⟩
  have hx1 := Below.obj hb1 HS0.out HX0.out
  have HS1 := hidP (Nat.lt_of_lt_of_le HS0.out hb1.size)
  have HX1 := hidP hx1
  have HW1 := hidP (HW.out.trans (hb1.mono (Nat.le_of_lt HS0.out)))
  obtain ⟨c0, c1, c2, c3, c4⟩ := box5 hx1
  clear hx1 hb1
  go_wp2_with fail
  clear c0 c1 c2 c3 c4
  refine (H38 _).out.mono ?_
  rintro e w2 ⟨rfl, hb2⟩
  have hx2 := Below.obj hb2 HS1.out HX1.out
  have HS2 := hidP (Nat.lt_of_lt_of_le HS1.out hb2.size)
  have HX2 := hidP hx2
  have HW2 := hidP (HW1.out.trans (hb2.mono (Nat.le_of_lt HS1.out)))
  obtain ⟨c0, c1, c2, c3, c4⟩ := box5 hx2
  clear hx2 hb2
  go_wp2_with fail
  clear c0 c1 c2 c3 c4
  refine (H39 _).out.mono ?_
  rintro e w3 ⟨rfl, hb3⟩
  have hx3 := Below.obj hb3 HS2.out HX2.out
  have HS3 := hidP (Nat.lt_of_lt_of_le HS2.out hb3.size)
  have HX3 := hidP hx3
  have HW3 := hidP (HW2.out.trans (hb3.mono (Nat.le_of_lt HS2.out)))
  obtain ⟨c0, c1, c2, c3, c4⟩ := box5 hx3
  clear hx3 hb3
  go_wp2_with fail
  clear c0 c1 c2 c3 c4
  refine (H18 _).out.mono ?_
  rintro e w4 ⟨rfl, hb4⟩
  have HW4 := hidP (HW3.out.trans (hb4.mono (Nat.le_of_lt HS3.out)))
  go_wp2
  go_ret
  exact ⟨rfl, HW4.out⟩
attribute [local go_sem] call56 guard0 fmt0 fmt0r fmt1 fmt1r fmt2 fmt2r fmt3 fmt3r fmt4 fmt4r fmt5 fmt5r fmt6 fmt6r fmt7 fmt7r op3_100 op3_100w ptr111 elem111 isError111
set_option maxHeartbeats 1000000 in
theorem check_bad1 (F : Interp) (n A r b c : Int) (w : World) (hF : F.answers w.tape) (h : ¬ (1 ≤ n ∧ n ≤ 2147483647 ∧ 1 ≤ A)) :
    Calls Tryf.prog 20 #[.agg #[.int .i64 n, .int .i64 A, .int .i64 r, .int .i64 b, .int .i64 c]] w (Refuses w) := by
  have H37 := fun w' (ht : w'.tape = w.tape) => hidP (model_bad F n A w' (by rw [ht]; exact hF) h)
  have HF := hidP hF
  clear hF
  have hx0 := heap_alloc_new w (.cells #[.int .i64 n, .int .i64 A, .int .i64 r, .int .i64 b, .int .i64 c] 30)
  have HW0 := hidP ((Below.refl w.heap.size w).alloc (Nat.le_refl _) (.cells #[.int .i64 n, .int .i64 A, .int .i64 r, .int .i64 b, .int .i64 c] 30))
  have hs0 : w.heap.size < (w.alloc (.cells #[.int .i64 n, .int .i64 A, .int .i64 r, .int .i64 b, .int .i64 c] 30)).heap.size := by simp
  have HX0 := hidP hx0
  have HS0 := hidP hs0
  clear hx0 hs0
  go_enter Tryf.func20, Tryf.ntmps20
  go_wp2_with fail
  refine (H37 _ HW0.out.tape).out.mono ?_
  rintro e w1 ⟨t, v, rfl, hb1⟩
  have HW1 := hidP (HW0.out.trans (hb1.mono (Nat.le_of_lt HS0.out)))
  clear hb1
  go_wp2
  go_ret
  exact ⟨_, _, rfl, HW1.out⟩
set_option maxHeartbeats 1000000 in
theorem check_bad2 (F : Interp) (n A r b c : Int) (w : World) (hF : F.answers w.tape) (h1 : 1 ≤ n) (h2 : n ≤ 2147483647) (h3 : 1 ≤ A) (h : r < 1) :
    Calls Tryf.prog 20 #[.agg #[.int .i64 n, .int .i64 A, .int .i64 r, .int .i64 b, .int .i64 c]] w (Refuses w) := by
  have H37 := fun w => hidP (model_ok n A w h1 h2 h3)
  have H38 := fun w' (ht : w'.tape = w.tape) => hidP (rounds_bad F r w' (by rw [ht]; exact hF) h)
  have HF := hidP hF
  clear hF
  have hx0 := heap_alloc_new w (.cells #[.int .i64 n, .int .i64 A, .int .i64 r, .int .i64 b, .int .i64 c] 30)
  have HW0 := hidP ((Below.refl w.heap.size w).alloc (Nat.le_refl _) (.cells #[.int .i64 n, .int .i64 A, .int .i64 r, .int .i64 b, .int .i64 c] 30))
  have hs0 : w.heap.size < (w.alloc (.cells #[.int .i64 n, .int .i64 A, .int .i64 r, .int .i64 b, .int .i64 c] 30)).heap.size := by simp
  have HX0 := hidP hx0
  have HS0 := hidP hs0
  clear hx0 hs0
  go_enter Tryf.func20, Tryf.ntmps20
  go_wp2_with fail
  refine (H37 _).out.mono ?_
  rintro e w1 ⟨rfl, hb1⟩
  have hx1 := Below.obj hb1 HS0.out HX0.out
  have HS1 := hidP (Nat.lt_of_lt_of_le HS0.out hb1.size)
  have HX1 := hidP hx1
  have HW1 := hidP (HW0.out.trans (hb1.mono (Nat.le_of_lt HS0.out)))
  obtain ⟨c0, c1, c2, c3, c4⟩ := box5 hx1
  clear hx1 hb1
  go_wp2_with fail
  clear c0 c1 c2 c3 c4
  refine (H38 _ HW1.out.tape).out.mono ?_
  rintro e w2 ⟨t, v, rfl, hb2⟩
  have HW2 := hidP (HW1.out.trans (hb2.mono (Nat.le_of_lt HS1.out)))
  clear hb2
  go_wp2
  go_ret
  exact ⟨_, _, rfl, HW2.out⟩
set_option maxHeartbeats 1000000 in
theorem check_bad3 (F : Interp) (n A r b c : Int) (w : World) (hF : F.answers w.tape) (h1 : 1 ≤ n) (h2 : n ≤ 2147483647) (h3 : 1 ≤ A) (h4 : 1 ≤ r) (h : b < 0) :
    Calls Tryf.prog 20 #[.agg #[.int .i64 n, .int .i64 A, .int .i64 r, .int .i64 b, .int .i64 c]] w (Refuses w) := by
  have H37 := fun w => hidP (model_ok n A w h1 h2 h3)
  have H38 := fun w => hidP (rounds_ok r w h4)
  have H39 := fun w' (ht : w'.tape = w.tape) => hidP (boot_bad F b w' (by rw [ht]; exact hF) h)
  have HF := hidP hF
  clear hF
  have hx0 := heap_alloc_new w (.cells #[.int .i64 n, .int .i64 A, .int .i64 r, .int .i64 b, .int .i64 c] 30)
  have HW0 := hidP ((Below.refl w.heap.size w).alloc (Nat.le_refl _) (.cells #[.int .i64 n, .int .i64 A, .int .i64 r, .int .i64 b, .int .i64 c] 30))
  have hs0 : w.heap.size < (w.alloc (.cells #[.int .i64 n, .int .i64 A, .int .i64 r, .int .i64 b, .int .i64 c] 30)).heap.size := by simp
  have HX0 := hidP hx0
  have HS0 := hidP hs0
  clear hx0 hs0
  go_enter Tryf.func20, Tryf.ntmps20
  go_wp2_with fail
  refine (H37 _).out.mono ?_
  rintro e w1 ⟨rfl, hb1⟩
  have hx1 := Below.obj hb1 HS0.out HX0.out
  have HS1 := hidP (Nat.lt_of_lt_of_le HS0.out hb1.size)
  have HX1 := hidP hx1
  have HW1 := hidP (HW0.out.trans (hb1.mono (Nat.le_of_lt HS0.out)))
  obtain ⟨c0, c1, c2, c3, c4⟩ := box5 hx1
  clear hx1 hb1
  go_wp2_with fail
  clear c0 c1 c2 c3 c4
  refine (H38 _).out.mono ?_
  rintro e w2 ⟨rfl, hb2⟩
  have hx2 := Below.obj hb2 HS1.out HX1.out
  have HS2 := hidP (Nat.lt_of_lt_of_le HS1.out hb2.size)
  have HX2 := hidP hx2
  have HW2 := hidP (HW1.out.trans (hb2.mono (Nat.le_of_lt HS1.out)))
  obtain ⟨c0, c1, c2, c3, c4⟩ := box5 hx2
  clear hx2 hb2
  go_wp2_with fail
  clear c0 c1 c2 c3 c4
  refine (H39 _ HW2.out.tape).out.mono ?_
  rintro e w3 ⟨t, v, rfl, hb3⟩
  have HW3 := hidP (HW2.out.trans (hb3.mono (Nat.le_of_lt HS2.out)))
  clear hb3
  go_wp2
  go_ret
  exact ⟨_, _, rfl, HW3.out⟩
set_option maxHeartbeats 1000000 in
theorem check_bad4 (F : Interp) (n A r b c : Int) (w : World) (hF : F.answers w.tape) (h1 : 1 ≤ n) (h2 : n ≤ 2147483647) (h3 : 1 ≤ A) (h4 : 1 ≤ r) (h5 : 0 ≤ b) (h : c < 0) :
    Calls Tryf.prog 20 #[.agg #[.int .i64 n, .int .i64 A, .int .i64 r, .int .i64 b, .int .i64 c]] w (Refuses w) := by
  have H37 := fun w => hidP (model_ok n A w h1 h2 h3)
  have H38 := fun w => hidP (rounds_ok r w h4)
  have H39 := fun w => hidP (boot_ok b w h5)
  have HF := hidP hF
  clear hF
  have hx0 := heap_alloc_new w (.cells #[.int .i64 n, .int .i64 A, .int .i64 r, .int .i64 b, .int .i64 c] 30)
  have HW0 := hidP ((Below.refl w.heap.size w).alloc (Nat.le_refl _) (.cells #[.int .i64 n, .int .i64 A, .int .i64 r, .int .i64 b, .int .i64 c] 30))
  have hs0 : w.heap.size < (w.alloc (.cells #[.int .i64 n, .int .i64 A, .int .i64 r, .int .i64 b, .int .i64 c] 30)).heap.size := by simp
  have HX0 := hidP hx0
  have HS0 := hidP hs0
  clear hx0 hs0
  go_enter Tryf.func20, Tryf.ntmps20
  go_wp2_with fail
  refine (H37 _).out.mono ?_
  rintro e w1 ⟨rfl, hb1⟩
  have hx1 := Below.obj hb1 HS0.out HX0.out
  have HS1 := hidP (Nat.lt_of_lt_of_le HS0.out hb1.size)
  have HX1 := hidP hx1
  have HW1 := hidP (HW0.out.trans (hb1.mono (Nat.le_of_lt HS0.out)))
  obtain ⟨c0, c1, c2, c3, c4⟩ := box5 hx1
  clear hx1 hb1
  go_wp2_with fail
  clear c0 c1 c2 c3 c4
  refine (H38 _).out.mono ?_
  rintro e w2 ⟨rfl, hb2⟩
  have hx2 := Below.obj hb2 HS1.out HX1.out
  have HS2 := hidP (Nat.lt_of_lt_of_le HS1.out hb2.size)
  have HX2 := hidP hx2
  have HW2 := hidP (HW1.out.trans (hb2.mono (Nat.le_of_lt HS1.out)))
  obtain ⟨c0, c1, c2, c3, c4⟩ := box5 hx2
  clear hx2 hb2
  go_wp2_with fail
  clear c0 c1 c2 c3 c4
  refine (H39 _).out.mono ?_
  rintro e w3 ⟨rfl, hb3⟩
  have hx3 := Below.obj hb3 HS2.out HX2.out
  have HS3 := hidP (Nat.lt_of_lt_of_le HS2.out hb3.size)
  have HX3 := hidP hx3
  have HW3 := hidP (HW2.out.trans (hb3.mono (Nat.le_of_lt HS2.out)))
  obtain ⟨c0, c1, c2, c3, c4⟩ := box5 hx3
  clear hx3 hb3
  have hF' := answers_open (show F.answers w3.tape by rw [HW3.out.tape]; exact HF.out)
  have hsz := HS3.out
  go_wp2
  go_ret
  refine ⟨_, _, rfl, HW3.out.trans ?_⟩
  repeat (first | exact Below.refl _ _ | refine Below.drew ?_ | refine Below.alloc ?_ (by first | omega | (simp; omega) | simp) _)
set_option maxHeartbeats 1000000 in
theorem check_bad5 (F : Interp) (n A r b c : Int) (w : World) (hF : F.answers w.tape) (h1 : 1 ≤ n) (h2 : n ≤ 2147483647) (h3 : 1 ≤ A) (h4 : 1 ≤ r) (h5 : 0 ≤ b) (h6 : 0 ≤ c) (h : n ≤ c) :
    Calls Tryf.prog 20 #[.agg #[.int .i64 n, .int .i64 A, .int .i64 r, .int .i64 b, .int .i64 c]] w (Refuses w) := by
  have H37 := fun w => hidP (model_ok n A w h1 h2 h3)
  have H38 := fun w => hidP (rounds_ok r w h4)
  have H39 := fun w => hidP (boot_ok b w h5)
  have HF := hidP hF
  clear hF
  have hx0 := heap_alloc_new w (.cells #[.int .i64 n, .int .i64 A, .int .i64 r, .int .i64 b, .int .i64 c] 30)
  have HW0 := hidP ((Below.refl w.heap.size w).alloc (Nat.le_refl _) (.cells #[.int .i64 n, .int .i64 A, .int .i64 r, .int .i64 b, .int .i64 c] 30))
  have hs0 : w.heap.size < (w.alloc (.cells #[.int .i64 n, .int .i64 A, .int .i64 r, .int .i64 b, .int .i64 c] 30)).heap.size := by simp
  have HX0 := hidP hx0
  have HS0 := hidP hs0
  clear hx0 hs0
  go_enter Tryf.func20, Tryf.ntmps20
  go_wp2_with fail
  refine (H37 _).out.mono ?_
  rintro e w1 ⟨rfl, hb1⟩
  have hx1 := Below.obj hb1 HS0.out HX0.out
  have HS1 := hidP (Nat.lt_of_lt_of_le HS0.out hb1.size)
  have HX1 := hidP hx1
  have HW1 := hidP (HW0.out.trans (hb1.mono (Nat.le_of_lt HS0.out)))
  obtain ⟨c0, c1, c2, c3, c4⟩ := box5 hx1
  clear hx1 hb1
  go_wp2_with fail
  clear c0 c1 c2 c3 c4
  refine (H38 _).out.mono ?_
  rintro e w2 ⟨rfl, hb2⟩
  have hx2 := Below.obj hb2 HS1.out HX1.out
  have HS2 := hidP (Nat.lt_of_lt_of_le HS1.out hb2.size)
  have HX2 := hidP hx2
  have HW2 := hidP (HW1.out.trans (hb2.mono (Nat.le_of_lt HS1.out)))
  obtain ⟨c0, c1, c2, c3, c4⟩ := box5 hx2
  clear hx2 hb2
  go_wp2_with fail
  clear c0 c1 c2 c3 c4
  refine (H39 _).out.mono ?_
  rintro e w3 ⟨rfl, hb3⟩
  have hx3 := Below.obj hb3 HS2.out HX2.out
  have HS3 := hidP (Nat.lt_of_lt_of_le HS2.out hb3.size)
  have HX3 := hidP hx3
  have HW3 := hidP (HW2.out.trans (hb3.mono (Nat.le_of_lt HS2.out)))
  obtain ⟨c0, c1, c2, c3, c4⟩ := box5 hx3
  clear hx3 hb3
  have hF' := answers_open (show F.answers w3.tape by rw [HW3.out.tape]; exact HF.out)
  have hsz := HS3.out
  go_wp2
  go_ret
  refine ⟨_, _, rfl, HW3.out.trans ?_⟩
  repeat (first | exact Below.refl _ _ | refine Below.drew ?_ | refine Below.alloc ?_ (by first | omega | (simp; omega) | simp) _)
set_option maxHeartbeats 1000000 in
theorem check_bad6 (F : Interp) (n A r b c : Int) (w : World) (hF : F.answers w.tape) (h1 : 1 ≤ n) (h2 : n ≤ 2147483647) (h3 : 1 ≤ A) (h4 : 1 ≤ r) (h5 : 0 ≤ b) (h6 : 0 ≤ c) (h7 : c < n) (h : A < c) (h8 : A * (n - c) < c) :
    Calls Tryf.prog 20 #[.agg #[.int .i64 n, .int .i64 A, .int .i64 r, .int .i64 b, .int .i64 c]] w (Refuses w) := by
  have H37 := fun w => hidP (model_ok n A w h1 h2 h3)
  have H38 := fun w => hidP (rounds_ok r w h4)
  have H39 := fun w => hidP (boot_ok b w h5)
  have H18 := fun w' (ht : w'.tape = w.tape) => hidP (joins_bad F n A c w' (by rw [ht]; exact hF) h2 h3 h7 h h8)
  have HF := hidP hF
  clear hF
  have hx0 := heap_alloc_new w (.cells #[.int .i64 n, .int .i64 A, .int .i64 r, .int .i64 b, .int .i64 c] 30)
  have HW0 := hidP ((Below.refl w.heap.size w).alloc (Nat.le_refl _) (.cells #[.int .i64 n, .int .i64 A, .int .i64 r, .int .i64 b, .int .i64 c] 30))
  have hs0 : w.heap.size < (w.alloc (.cells #[.int .i64 n, .int .i64 A, .int .i64 r, .int .i64 b, .int .i64 c] 30)).heap.size := by simp
  have HX0 := hidP hx0
  have HS0 := hidP hs0
  clear hx0 hs0
  go_enter Tryf.func20, Tryf.ntmps20
  go_wp2_with fail
  refine (H37 _).out.mono ?_
  rintro e w1 ⟨rfl, hb1⟩
  have hx1 := Below.obj hb1 HS0.out HX0.out
  have HS1 := hidP (Nat.lt_of_lt_of_le HS0.out hb1.size)
  have HX1 := hidP hx1
  have HW1 := hidP (HW0.out.trans (hb1.mono (Nat.le_of_lt HS0.out)))
  obtain ⟨c0, c1, c2, c3, c4⟩ := box5 hx1
  clear hx1 hb1
  go_wp2_with fail
  clear c0 c1 c2 c3 c4
  refine (H38 _).out.mono ?_
  rintro e w2 ⟨rfl, hb2⟩
  have hx2 := Below.obj hb2 HS1.out HX1.out
  have HS2 := hidP (Nat.lt_of_lt_of_le HS1.out hb2.size)
  have HX2 := hidP hx2
  have HW2 := hidP (HW1.out.trans (hb2.mono (Nat.le_of_lt HS1.out)))
  obtain ⟨c0, c1, c2, c3, c4⟩ := box5 hx2
  clear hx2 hb2
  go_wp2_with fail
  clear c0 c1 c2 c3 c4
  refine (H39 _).out.mono ?_
  rintro e w3 ⟨rfl, hb3⟩
  have hx3 := Below.obj hb3 HS2.out HX2.out
  have HS3 := hidP (Nat.lt_of_lt_of_le HS2.out hb3.size)
  have HX3 := hidP hx3
  have HW3 := hidP (HW2.out.trans (hb3.mono (Nat.le_of_lt HS2.out)))
  obtain ⟨c0, c1, c2, c3, c4⟩ := box5 hx3
  clear hx3 hb3
  go_wp2_with fail
  clear c0 c1 c2 c3 c4
  refine (H18 _ HW3.out.tape).out.mono ?_
  rintro e w4 ⟨t, v, rfl, hb4⟩
  have HW4 := hidP (HW3.out.trans (hb4.mono (Nat.le_of_lt HS3.out)))
  clear hb4
  go_wp2
  go_ret
  exact ⟨_, _, rfl, HW4.out⟩

theorem check_bad (F : Interp) (n A r b c : Int) (w : World) (hF : F.answers w.tape) (h : ¬ Okay n A r b c) :
    Calls Tryf.prog 20 #[.agg #[.int .i64 n, .int .i64 A, .int .i64 r, .int .i64 b, .int .i64 c]] w (Refuses w) := by
  by_cases g1 : 1 ≤ n ∧ n ≤ 2147483647 ∧ 1 ≤ A
  · by_cases g2 : r < 1
    · exact check_bad2 F n A r b c w hF g1.1 g1.2.1 g1.2.2 g2
    by_cases g3 : b < 0
    · exact check_bad3 F n A r b c w hF g1.1 g1.2.1 g1.2.2 (by omega) g3
    by_cases g4 : c < 0
    · exact check_bad4 F n A r b c w hF g1.1 g1.2.1 g1.2.2 (by omega) (by omega) g4
    by_cases g5 : n ≤ c
    · exact check_bad5 F n A r b c w hF g1.1 g1.2.1 g1.2.2 (by omega) (by omega) (by omega) g5
    by_cases g6 : A < c ∧ A * (n - c) < c
    · exact check_bad6 F n A r b c w hF g1.1 g1.2.1 g1.2.2 (by omega) (by omega) (by omega) (by omega) g6.1 g6.2
    exact absurd ⟨g1.1, g1.2.1, g1.2.2, by omega, by omega, by omega, by omega, fun ha => by omega⟩ h
  · exact check_bad1 F n A r b c w hF g1

set_option maxHeartbeats 400000 in
theorem zcheck_ok (n A r b c : Int) (w : World) (h : Okay n A r b c) :
    Calls Tryf.prog 9 #[.agg #[.int .i64 n, .int .i64 A, .int .i64 r, .int .i64 b, .int .i64 c]] w (Passes w) := by
  have H20 := fun w => hidP (check_ok n A r b c w h)
  clear h
  go_enter Tryf.func9, Tryf.ntmps9
  go_wp2_with (go_at_call 20; refine (H20 _).out.mono ?_; rintro e w1 ⟨rfl, hb1⟩)
  go_ret
  exact ⟨rfl, ((Below.refl w.heap.size w).alloc (Nat.le_refl _) _).trans (hb1.mono (by simp))⟩
set_option maxHeartbeats 400000 in
theorem zcheck_bad (F : Interp) (n A r b c : Int) (w : World) (hF : F.answers w.tape) (h : ¬ Okay n A r b c) :
    Calls Tryf.prog 9 #[.agg #[.int .i64 n, .int .i64 A, .int .i64 r, .int .i64 b, .int .i64 c]] w (Refuses w) := by
  have H20 := fun w' (ht : w'.tape = w.tape) => hidP (check_bad F n A r b c w' (by rw [ht]; exact hF) h)
  clear h hF
  go_enter Tryf.func9, Tryf.ntmps9
  go_wp2_with (go_at_call 20; refine (H20 _ (by rfl)).out.mono ?_; rintro e w1 ⟨t, v, rfl, hb1⟩)
  go_ret
  exact ⟨_, _, rfl, ((Below.refl w.heap.size w).alloc (Nat.le_refl _) _).trans (hb1.mono (by simp))⟩
end Go.Proofs.Qxb6003965aFmt

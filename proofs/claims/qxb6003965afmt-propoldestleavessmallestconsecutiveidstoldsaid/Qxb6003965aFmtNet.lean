/-
  Seat b6003965aF: the network: newNetwork, churn.
-/
import Derived.Test.Qxb6003965aFmtApply
import Derived.Test.Qxb6003965aFmtIntn
import Derived.Test.Qxb6003965aFmtCheckS
import Derived.Maps.OwnSet
namespace Go.Proofs.Qxb6003965aFmt
open Go.RowKit Go.WideMaps Go.Maps

/-- The network: its struct, its row of nodes, its map. -/
structure Net (w : World) (Nb Rb Pb Mb : Nat) (A : Int) (n : Nat) (next : Int) (ps : List Int) (D : DataW Unit) (m : Nat) : Prop where
  box : w.heap[Nb]? = some (.cells #[.pointer (some ⟨Rb, 0, none⟩), .int .i64 A, .slice (some ⟨Pb, 0, none⟩) n n, .int .i64 next, .map (some Mb)] 80 (0, 0))
  row : IRow w Pb n ps
  len : ps.length = n
  map : w.ownsMap Tryf.prog 2 (plainElem (H := Unit) Tryf.prog 3) Mb m D

variable {w w' : World} {Nb Rb Pb Mb : Nat} {A : Int} {n : Nat} {next : Int} {ps : List Int} {D : DataW Unit} {m : Nat} {S : Nat → Prop}
theorem map_block (h : w.ownsMap Tryf.prog 2 (plainElem (H := Unit) Tryf.prog 3) Mb m D) : ∃ es c, w.heap[Mb]? = some (.map es c) := by
  obtain ⟨es, c, hb, _⟩ := h; exact ⟨es, c, hb⟩
theorem Net.np (h : Net w Nb Rb Pb Mb A n next ps D m) : Nb ≠ Pb := by
  intro e; obtain ⟨cur, h1, _⟩ := h.row; rw [← e, h.box] at h1; simp at h1
theorem Net.nm (h : Net w Nb Rb Pb Mb A n next ps D m) : Nb ≠ Mb := by
  intro e; obtain ⟨es, c, h1⟩ := map_block h.map; rw [← e, h.box] at h1; simp at h1
theorem Net.pm (h : Net w Nb Rb Pb Mb A n next ps D m) : Pb ≠ Mb := by
  intro e; obtain ⟨es, c, h1⟩ := map_block h.map; obtain ⟨cur, h2, _⟩ := h.row; rw [← e, h2] at h1; simp at h1
theorem ownsMap_frm (h : w.ownsMap Tryf.prog 2 (plainElem (H := Unit) Tryf.prog 3) Mb m D) (hf : Frm S w w') (hs : ¬ S Mb) : w'.ownsMap Tryf.prog 2 (plainElem (H := Unit) Tryf.prog 3) Mb m D := by
  obtain ⟨es, c, hb, r⟩ := h
  exact ⟨es, c, hf.obj hb hs, r⟩
theorem Net.frm (h : Net w Nb Rb Pb Mb A n next ps D m) (hf : Frm S w w') (h1 : ¬ S Nb) (h2 : ¬ S Pb) (h3 : ¬ S Mb) : Net w' Nb Rb Pb Mb A n next ps D m :=
  ⟨hf.obj h.box h1, h.row.frm hf h2, h.len, ownsMap_frm h.map hf h3⟩
theorem Net.cells (h : Net w Nb Rb Pb Mb A n next ps D m) : w.cell? ⟨Nb, 0, none⟩ = some (.pointer (some ⟨Rb, 0, none⟩)) ∧ w.cell? ⟨Nb, 1, none⟩ = some (.int .i64 A) ∧ w.cell? ⟨Nb, 2, none⟩ = some (.slice (some ⟨Pb, 0, none⟩) n n) ∧
    w.cell? ⟨Nb, 3, none⟩ = some (.int .i64 next) ∧ w.cell? ⟨Nb, 4, none⟩ = some (.map (some Mb)) := box5 h.box

/-- What newNetwork leaves. -/
def NetMade (w : World) (Rb : Nat) (A : Int) (n : Nat) (e : Ending) (w' : World) : Prop :=
  ∃ Nb Pb Mb, e = .returned (.pointer (some ⟨Nb, 0, none⟩)) ∧ Net w' Nb Rb Pb Mb A n (n : Int) (consec 0 n) (.map []) 0 ∧ w.heap.size ≤ Nb ∧ w.heap.size ≤ Pb ∧ w.heap.size ≤ Mb ∧ Below w.heap.size w w'

/-- .. in the middle of its loop. -/
def NetLoop (w : World) (Rb : Nat) (A : Int) (n k : Nat) (wr : World) : Prop :=
  ∃ Pb Mb xs, Net wr (w.heap.size + 1 + 1 + 1) Rb Pb Mb A n (n : Int) xs (.map []) 0 ∧ w.heap.size ≤ Pb ∧ w.heap.size ≤ Mb ∧ (∀ j, j < k → xs.getD j 0 = (j : Int)) ∧ Below w.heap.size w wr

theorem heapA {w : World} {o : Obj} {g : Nat} {x : Obj} (h : w.heap[g]? = some x) : (w.alloc o).heap[g]? = some x := by
  rw [Below.heap_alloc _ _ _ (lt_of_block h)]; exact h
theorem IRow.made (w : World) (n : Nat) (hn : n ≤ 1048576) : IRow (w.alloc (.cells (madeCells #[.int .i64 0] n) 2)) w.heap.size n (List.replicate n 0) := by
  refine ⟨_, heap_alloc_new _ _, size_madeCells _ _, by simp, by unfold maxLen; omega, ?_⟩
  have h := made_zeros n
  rw [Nat.mul_one] at h
  rw [List.length_replicate, ← h, List.take_of_length_le (by simp [madeCells])]
  simp [Value.cells]
theorem IRow.alloc {w : World} {B cap : Nat} {zs : List Int} (h : IRow w B cap zs) (o : Obj) : IRow (w.alloc o) B cap zs := h.frm (S := fun _ => False) ((Frm.refl _ _).alloc o) id
theorem IRow.drew {w : World} {B cap : Nat} {zs : List Int} (h : IRow w B cap zs) : IRow w.drew B cap zs := h
theorem NetLoop.start1 (w : World) (Rb : Nat) (A : Int) (n : Nat) (hn : n ≤ 1048576) (o : Obj) :
    NetLoop w Rb A n 0 ((((((w.alloc o).alloc (.cells (madeCells #[.int .i64 0] n) 2)).alloc (.map #[] 0)).alloc (.cells #[.pointer (some ⟨Rb, 0, none⟩), .int .i64 A, .slice (some ⟨w.heap.size + 1, 0, none⟩) n n, .int .i64 (n : Int), .map (some (w.heap.size + 1 + 1))] 80)).drew)) := by
  have e0 : (w.alloc o).heap.size = w.heap.size + 1 := by simp
  have e1 : ((w.alloc o).alloc (.cells (madeCells #[.int .i64 0] n) 2)).heap.size = w.heap.size + 1 + 1 := by simp
  have e2 : (((w.alloc o).alloc (.cells (madeCells #[.int .i64 0] n) 2)).alloc (.map #[] 0)).heap.size = w.heap.size + 1 + 1 + 1 := by simp
  refine ⟨w.heap.size + 1, w.heap.size + 1 + 1, List.replicate n 0, ⟨?_, ?_, by simp, ?_⟩, by omega, by omega, fun j hj => by omega, ?_⟩
  · have h := heap_alloc_new (((w.alloc o).alloc (.cells (madeCells #[.int .i64 0] n) 2)).alloc (.map #[] 0)) (.cells #[.pointer (some ⟨Rb, 0, none⟩), .int .i64 A, .slice (some ⟨w.heap.size + 1, 0, none⟩) n n, .int .i64 (n : Int), .map (some (w.heap.size + 1 + 1))] 80)
    rw [e2] at h; exact h
  · have h := IRow.made (w.alloc o) n hn
    rw [e0] at h; exact ((h.alloc _).alloc _).drew
  · have h := World.ownsMap_made ((w.alloc o).alloc (.cells (madeCells #[.int .i64 0] n) 2)) Tryf.prog 2 (plainElem (H := Unit) Tryf.prog 3)
    rw [e1] at h; exact (h.alloc _).drew
  · exact (((((Below.refl _ _).alloc (Nat.le_refl _) _).alloc (by omega) _).alloc (by omega) _).alloc (by omega) _).drew
theorem NetLoop.start2 (w : World) (Rb : Nat) (A : Int) (n : Nat) (hn : n ≤ 1048576) (o : Obj) :
    NetLoop w Rb A n 0 ((((((w.alloc o).alloc (.map #[] 0)).alloc (.cells (madeCells #[.int .i64 0] n) 2)).alloc (.cells #[.pointer (some ⟨Rb, 0, none⟩), .int .i64 A, .slice (some ⟨w.heap.size + 1 + 1, 0, none⟩) n n, .int .i64 (n : Int), .map (some (w.heap.size + 1))] 80)).drew)) := by
  have e0 : (w.alloc o).heap.size = w.heap.size + 1 := by simp
  have e1 : ((w.alloc o).alloc (.map #[] 0)).heap.size = w.heap.size + 1 + 1 := by simp
  have e2 : (((w.alloc o).alloc (.map #[] 0)).alloc (.cells (madeCells #[.int .i64 0] n) 2)).heap.size = w.heap.size + 1 + 1 + 1 := by simp
  refine ⟨w.heap.size + 1 + 1, w.heap.size + 1, List.replicate n 0, ⟨?_, ?_, by simp, ?_⟩, by omega, by omega, fun j hj => by omega, ?_⟩
  · have h := heap_alloc_new (((w.alloc o).alloc (.map #[] 0)).alloc (.cells (madeCells #[.int .i64 0] n) 2)) (.cells #[.pointer (some ⟨Rb, 0, none⟩), .int .i64 A, .slice (some ⟨w.heap.size + 1 + 1, 0, none⟩) n n, .int .i64 (n : Int), .map (some (w.heap.size + 1))] 80)
    rw [e2] at h; exact h
  · have h := IRow.made ((w.alloc o).alloc (.map #[] 0)) n hn
    rw [e1] at h; exact (h.alloc _).drew
  · have h := World.ownsMap_made (w.alloc o) Tryf.prog 2 (plainElem (H := Unit) Tryf.prog 3)
    rw [e0] at h; exact ((h.alloc _).alloc _).drew
  · exact (((((Below.refl _ _).alloc (Nat.le_refl _) _).alloc (by omega) _).alloc (by omega) _).alloc (by omega) _).drew
/-- A store into the row. -/
theorem Net.setRow (h : Net w Nb Rb Pb Mb A n next ps D m) (k : Nat) (x : Int) : Net (w.setCell ⟨Pb, k, none⟩ (.int .i64 x)) Nb Rb Pb Mb A n next (ps.set k x) D m := by
  have hf : Frm (fun i => i = Pb) w (w.setCell ⟨Pb, k, none⟩ (.int .i64 x)) := (Frm.refl (fun i => i = Pb) w).setCell (p := ⟨Pb, k, none⟩) (fun _ => rfl) _
  exact ⟨hf.obj h.box h.np, h.row.set k x, by rw [List.length_set]; exact h.len, ownsMap_frm h.map hf (fun e => h.pm e.symm)⟩

set_option maxHeartbeats 1000000 in
theorem newnet_any (n : Nat) (A : Int) (Rb : Nat) (w : World) (hn : n ≤ 1048576) :
    Calls Tryf.prog 23 #[.agg #[.int .i64 (n : Int), .int .i64 A], .pointer (some ⟨Rb, 0, none⟩)] w (NetMade w Rb A n) := by
  obtain ⟨i0, hi, hz0, hz1, hz2⟩ := info_parts Tryf.info2
  have hmk := fun w => run_make (P := Tryf.prog) w 39 2 i0 (.int .i64 0) Tryf.underlying39 hi hz0 .i64 .i64 n n (by omega) (by omega) (by rw [hz2]; omega) (by omega)
  have hmm := @run_makeMap Tryf.prog
  rw [hz1] at hmk
  clear hi hz0 hz1 hz2
  go_enter Tryf.func23, Tryf.ntmps23
  go_wp2
  go_region
  all_goals go_wp2
  all_goals clear hmk hmm
  all_goals
    go_loopw [23] (fun i wr => ∃ k : Nat, k ≤ n ∧ i = .int .i64 k ∧ NetLoop w Rb A n k wr) (fun i _ => n - (intOf i).toNat)
    case atStart => first | exact ⟨0, Nat.zero_le _, rfl, by exact NetLoop.start1 w Rb A n hn _⟩ | exact ⟨0, Nat.zero_le _, rfl, by exact NetLoop.start2 w Rb A n hn _⟩
    case round =>
      obtain ⟨k, hk, rfl, Pb, Mb, xs, hN, lP, lM, hup, hB⟩ := hrel
      by_cases hlt : k < n
      · obtain ⟨c0, c1, c2, c3, c4⟩ := hN.cells
        have hd := hN.row.cell (j := k) (by rw [hN.len]; omega)
        have hf := hN.row.frozen k
        have R : Hid (NetLoop w Rb A n (k + 1) (wr.setCell ⟨Pb, k, none⟩ (.int .i64 (k : Int)))) := by
          refine ⟨Pb, Mb, _, hN.setRow k (k : Int), lP, lM, fun j hj => ?_, hB.setCell (p := ⟨Pb, k, none⟩) lP _⟩
          rw [getD_set xs k j _ (by rw [hN.len]; omega)]
          by_cases e : k = j
          · rw [if_pos e, e]
          · rw [if_neg e]; exact hup j (by omega)
        generalize xs.getD k 0 = x0 at hd
        clear hN hup hB
        go_wp2
        go_roundw
        case rel => exact ⟨k + 1, by omega, by go_num, R.out⟩
        case measure => simp [intOf]; omega
      · have he : xs = consec 0 n := list_ext (by rw [hN.len, consec_len]) (fun j hj => by rw [hup j (by rw [hN.len] at hj; omega), consec_get 0 n j (by rw [hN.len] at hj; omega)]; omega)
        subst he
        have R : Hid (NetMade w Rb A n (.returned (.pointer (some ⟨w.heap.size + 1 + 1 + 1, 0, none⟩))) wr) := ⟨_, Pb, Mb, rfl, hN, by omega, lP, lM, hB⟩
        clear hN hup hB
        go_wp2
        go_ret
        exact R.out

set_option maxHeartbeats 400000 in
theorem churn_any (n A r b c k : Int) (w : World) :
    Calls Tryf.prog 25 #[.agg #[.int .i64 n, .int .i64 A, .int .i64 r, .int .i64 b, .int .i64 c], .int .i64 k] w fun e w' => e = .returned (.int .i64 (if k ≤ b then 0 else c)) ∧ Below w.heap.size w w' := by
  by_cases h : k ≤ b
  · rw [if_pos h]
    go_enter Tryf.func25, Tryf.ntmps25
    go_wp2
    go_ret
    exact ⟨rfl, (Below.refl _ _).alloc (Nat.le_refl _) _⟩
  · rw [if_neg h]
    go_enter Tryf.func25, Tryf.ntmps25
    go_wp2
    go_ret
    exact ⟨rfl, (Below.refl _ _).alloc (Nat.le_refl _) _⟩
end Go.Proofs.Qxb6003965aFmt

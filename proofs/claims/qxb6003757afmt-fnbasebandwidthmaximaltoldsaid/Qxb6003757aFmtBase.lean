/-
  Seat b6003757aF: BaseBandwidth and what it calls.
-/
import Derived.Test.Qxb6003757aFmtFacts
import Derived.WalkKit
import Derived.WalkSpells
import Derived.WalkLawsBesides
namespace Go.Proofs.Qxb6003757aFmt
open Go.RowKit Go.Extern.Stop Go.Stop Go.Extern

/-- It hands back an error that is not nil; nothing old has turned. -/
def Refuses (w : World) (e : Ending) (w' : World) : Prop := ∃ t v, e = .returned (.iface t v) ∧ Below w.heap.size w w'
/-- .. beside a nought. -/
def Refuses2 (w : World) (e : Ending) (w' : World) : Prop := ∃ t v, e = .returned (.tuple #[.int .u64 0, .iface t v]) ∧ Below w.heap.size w w'
theorem hidP {p : Prop} (h : p) : Hid p := h

attribute [local go_sem] call23 guard0 fmtA fmtAr fmtB fmtBr op3_100 op22_100 op47_115

set_option maxHeartbeats 400000 in
theorem shards_low (F : Interp) (n : Int) (w : World) (hF : F.answers w.tape) (hn : n < 1) :
    Calls Tryf.prog 22 #[.int .i64 n, .int .i64 65535] w (Refuses w) := by
  have hF' := answers_open hF
  go_enter Tryf.func22, Tryf.ntmps22
  go_wp2
  go_ret
  exact ⟨_, _, rfl, (((Below.refl _ _).alloc (Nat.le_refl _) _).alloc (by simp) _).drew⟩
set_option maxHeartbeats 400000 in
theorem shards_high (F : Interp) (n : Int) (w : World) (hF : F.answers w.tape) (hn : 65535 < n) :
    Calls Tryf.prog 22 #[.int .i64 n, .int .i64 65535] w (Refuses w) := by
  have hF' := answers_open hF
  go_enter Tryf.func22, Tryf.ntmps22
  go_wp2
  go_ret
  exact ⟨_, _, rfl, (((Below.refl _ _).alloc (Nat.le_refl _) _).alloc (by simp) _).drew⟩
theorem shards_bad (F : Interp) (n : Int) (w : World) (hF : F.answers w.tape) (hn : n < 1 ∨ 65535 < n) :
    Calls Tryf.prog 22 #[.int .i64 n, .int .i64 65535] w (Refuses w) :=
  hn.elim (shards_low F n w hF) (shards_high F n w hF)
theorem shards_ok (n : Int) (w : World) (h1 : 1 ≤ n) (h2 : n ≤ 65535) :
    Calls Tryf.prog 22 #[.int .i64 n, .int .i64 65535] w fun e w' => e = .returned .nilIface ∧ w' = w := by
  go_enter Tryf.func22, Tryf.ntmps22
  go_wp2
  go_ret
  exact ⟨rfl, rfl⟩
set_option maxHeartbeats 400000 in
theorem most_bad (F : Interp) (p q : ByteArray) (a b : Int) (w : World) (hF : F.answers w.tape) (h : b < a) :
    Calls Tryf.prog 20 #[.string p, .int .u64 a, .string q, .int .u64 b] w (Refuses w) := by
  have hF' := answers_open hF
  go_enter Tryf.func20, Tryf.ntmps20
  go_wp2
  go_ret
  exact ⟨_, _, rfl, (((Below.refl _ _).alloc (Nat.le_refl _) _).alloc (by simp) _).drew⟩
theorem most_ok (p q : ByteArray) (a b : Int) (w : World) (h : a ≤ b) :
    Calls Tryf.prog 20 #[.string p, .int .u64 a, .string q, .int .u64 b] w fun e w' => e = .returned .nilIface ∧ w' = w := by
  go_enter Tryf.func20, Tryf.ntmps20
  go_wp2
  go_ret
  exact ⟨rfl, rfl⟩
set_option maxHeartbeats 400000 in
theorem single_bad (F : Interp) (a b : Int) (w : World) (hF : F.answers w.tape) (h : a < b) :
    Calls Tryf.prog 19 #[.int .u64 a, .int .u64 b] w (Refuses w) := by
  have H20 := fun p q => hidP (most_bad F p q b a w hF h)
  go_enter Tryf.func19, Tryf.ntmps19
  go_wp2_with (go_at_call 20; refine (H20 _ _).out.mono ?_; rintro e w2 ⟨t, v, rfl, hb⟩)
  go_ret
  exact ⟨_, _, rfl, hb⟩
theorem single_ok (a b : Int) (w : World) (h : b ≤ a) :
    Calls Tryf.prog 19 #[.int .u64 a, .int .u64 b] w fun e w' => e = .returned .nilIface ∧ w' = w := by
  have H20 := fun p q => hidP (most_ok p q b a w h)
  go_enter Tryf.func19, Tryf.ntmps19
  go_wp2_with (go_at_call 20; refine (H20 _ _).out.mono ?_; rintro e w2 ⟨rfl, rfl⟩)
  go_ret
  exact ⟨rfl, rfl⟩

set_option maxHeartbeats 400000 in
theorem base_bad1 (F : Interp) (n a b c : Int) (w : World) (hF : F.answers w.tape) (hn : n < 1 ∨ 65535 < n) :
    Calls Tryf.prog 18 #[.int .i64 n, .int .u64 a, .int .u64 b, .int .u64 c] w (Refuses2 w) := by
  have H22 := hidP (shards_bad F n w hF hn)
  clear hn
  go_enter Tryf.func18, Tryf.ntmps18
  go_wp2_with (go_at_call 22; refine H22.out.mono ?_; rintro e w2 ⟨t, v, rfl, hb⟩)
  go_ret2
  exact ⟨_, _, rfl, hb⟩
set_option maxHeartbeats 400000 in
theorem base_bad2 (F : Interp) (n a b c : Int) (w : World) (hF : F.answers w.tape) (h1 : 1 ≤ n) (h2 : n ≤ 65535) (h : a < b) :
    Calls Tryf.prog 18 #[.int .i64 n, .int .u64 a, .int .u64 b, .int .u64 c] w (Refuses2 w) := by
  have H22 := hidP (shards_ok n w h1 h2)
  have H19 := hidP (single_bad F a b w hF h)
  go_enter Tryf.func18, Tryf.ntmps18
  go_wp2_with (first | (go_at_call 22; refine H22.out.mono ?_; rintro e w2 ⟨rfl, hw2⟩; obtain rfl : w = w2 := hw2.symm) | (go_at_call 19; refine H19.out.mono ?_; rintro e w2 ⟨t, v, rfl, hb⟩))
  go_ret2
  exact ⟨_, _, rfl, hb⟩
set_option maxHeartbeats 400000 in
theorem base_one (a b c : Int) (w : World) (h : b ≤ a) :
    Calls Tryf.prog 18 #[.int .i64 1, .int .u64 a, .int .u64 b, .int .u64 c] w fun e w' => e = .returned (.tuple #[.int .u64 c, .nilIface]) ∧ w' = w := by
  have H22 := hidP (shards_ok 1 w (by omega) (by omega))
  have H19 := hidP (single_ok a b w h)
  go_enter Tryf.func18, Tryf.ntmps18
  go_wp2_with (first | (go_at_call 22; refine H22.out.mono ?_; rintro e w2 ⟨rfl, rfl⟩) | (go_at_call 19; refine H19.out.mono ?_; rintro e w2 ⟨rfl, rfl⟩))
  go_ret2
  exact ⟨rfl, rfl⟩
set_option maxHeartbeats 400000 in
theorem base_quo (n a b c : Int) (w : World) (h1 : 2 ≤ n) (h2 : n ≤ 65535) (h : b ≤ a) (hb : 0 ≤ b) (ha : a ≤ 18446744073709551615) (hq : (a - b) / (n - 1) < c) :
    Calls Tryf.prog 18 #[.int .i64 n, .int .u64 a, .int .u64 b, .int .u64 c] w fun e w' => e = .returned (.tuple #[.int .u64 ((a - b) / (n - 1)), .nilIface]) ∧ w' = w := by
  have H22 := hidP (shards_ok n w (by omega) (by omega))
  have H19 := hidP (single_ok a b w h)
  have hn1 : (n == 1) = false := by simp; omega
  go_enter Tryf.func18, Tryf.ntmps18
  go_wp2_with (first | (go_at_call 22; refine H22.out.mono ?_; rintro e w2 ⟨rfl, rfl⟩) | (go_at_call 19; refine H19.out.mono ?_; rintro e w2 ⟨rfl, rfl⟩))
  go_ret2
  exact ⟨rfl, rfl⟩
set_option maxHeartbeats 400000 in
theorem base_cap (n a b c : Int) (w : World) (h1 : 2 ≤ n) (h2 : n ≤ 65535) (h : b ≤ a) (hb : 0 ≤ b) (ha : a ≤ 18446744073709551615) (hq : c ≤ (a - b) / (n - 1)) :
    Calls Tryf.prog 18 #[.int .i64 n, .int .u64 a, .int .u64 b, .int .u64 c] w fun e w' => e = .returned (.tuple #[.int .u64 c, .nilIface]) ∧ w' = w := by
  have H22 := hidP (shards_ok n w (by omega) (by omega))
  have H19 := hidP (single_ok a b w h)
  have hn1 : (n == 1) = false := by simp; omega
  go_enter Tryf.func18, Tryf.ntmps18
  go_wp2_with (first | (go_at_call 22; refine H22.out.mono ?_; rintro e w2 ⟨rfl, rfl⟩) | (go_at_call 19; refine H19.out.mono ?_; rintro e w2 ⟨rfl, rfl⟩))
  go_ret2
  exact ⟨rfl, rfl⟩
end Go.Proofs.Qxb6003757aFmt

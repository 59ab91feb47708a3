/-
  Seat b6003994aD: zzOneBitInt; the plain law at one bit.
-/
import Derived.Test.Qxb6003994aDoorDInt
namespace Go.Proofs.Qxb6003994aDoor
open Go.RowKit

/-- zzOneBitInt's answer. -/
def mone : List UInt8 → Int × Bool
  | [] => (0, false)
  | [c] => if c.toNat = 48 then (0, true) else (0, false)
  | [c, d] => if c.toNat ≠ 45 then (0, false) else if 50 ≤ d.toNat ∧ d.toNat ≤ 57 then (-1, true) else if d.toNat ≠ 49 then (0, false) else (-1, true)
  | c :: d :: x :: _ => if c.toNat ≠ 45 then (0, false) else if 50 ≤ d.toNat ∧ d.toNat ≤ 57 then (-1, true) else if d.toNat ≠ 49 then (0, false) else if 48 ≤ x.toNat ∧ x.toNat ≤ 57 then (-1, true) else (0, false)
def MoPost (l : List UInt8) (w : World) (e : Ending) (w' : World) : Prop := e = .returned (.tuple #[.int .i64 (mone l).1, .bool (mone l).2]) ∧ w' = w

theorem MoPost.intro {l : List UInt8} {w : World} {v : Int} {b : Bool} (h : mone l = (v, b)) : MoPost l w (.returned (.tuple #[.int .i64 v, .bool b])) w := ⟨by rw [h], rfl⟩

set_option maxHeartbeats 3200000 in
set_option maxRecDepth 100000 in
theorem one_all (s : ByteArray) (hmax : s.size ≤ 1048576) (w : World) : Calls Tryd.prog 14 #[.string s] w (MoPost s.data.toList w) := by
  have hA : ∀ k (hk : k < s.size), s[k]'hk = s.data.toList.getD k 0 := fun k hk => Lib.getD_at s k hk
  cases hL : s.data.toList with
  | nil =>
    have h0 : s.size = 0 := by rw [Lib.size_eq, hL]; rfl
    have R : Hid (MoPost [] w (.returned (.tuple #[.int .i64 0, .bool false])) w) := MoPost.intro rfl
    clear hL hA
    go_enter Tryd.func14, Tryd.ntmps14
    go_wp2
    go_ret2
    exact R.out
  | cons c r =>
    have hsz : s.size = r.length + 1 := by rw [Lib.size_eq, hL]; rfl
    have hs0 : s[0]'(by omega) = c := by rw [hA 0 (by omega), hL]; rfl
    cases r with
    | nil =>
      have hsz : s.size = 1 := hsz
      clear hL hA
      by_cases hc : c.toNat = 48
      · have R : Hid (MoPost [c] w (.returned (.tuple #[.int .i64 0, .bool true])) w) := MoPost.intro (by simp [mone, hc])
        go_enter Tryd.func14, Tryd.ntmps14
        go_wp2
        go_ret2
        exact R.out
      · have R : Hid (MoPost [c] w (.returned (.tuple #[.int .i64 0, .bool false])) w) := MoPost.intro (by simp [mone, hc])
        have hc' : ¬ (c.toNat : Int) = 48 := by omega
        clear hc
        go_enter Tryd.func14, Tryd.ntmps14
        go_wp2
        go_ret2
        exact R.out
    | cons d r =>
      have hsz : s.size = r.length + 2 := hsz
      have hs1 : s[1]'(by omega) = d := by rw [hA 1 (by omega), hL]; rfl
      by_cases hc : c.toNat = 45
      · by_cases hd : 50 ≤ d.toNat ∧ d.toNat ≤ 57
        · have R : Hid (MoPost (c :: d :: r) w (.returned (.tuple #[.int .i64 (-1), .bool true])) w) := MoPost.intro (by cases r <;> simp [mone, hc, hd])
          obtain ⟨hd1, hd2⟩ := hd
          clear hL hA
          go_enter Tryd.func14, Tryd.ntmps14
          go_wp2
          go_ret2
          exact R.out
        · by_cases hd1 : d.toNat = 49
          · cases r with
            | nil =>
              have hsz : s.size = 2 := hsz
              have R : Hid (MoPost [c, d] w (.returned (.tuple #[.int .i64 (-1), .bool true])) w) := MoPost.intro (by simp [mone, hc, hd1])
              clear hL hA hd
              go_enter Tryd.func14, Tryd.ntmps14
              go_wp2
              go_ret2
              exact R.out
            | cons x r =>
              have hsz : s.size = r.length + 3 := hsz
              have hs2 : s[2]'(by omega) = x := by rw [hA 2 (by omega), hL]; rfl
              by_cases hx : 48 ≤ x.toNat ∧ x.toNat ≤ 57
              · have R : Hid (MoPost (c :: d :: x :: r) w (.returned (.tuple #[.int .i64 (-1), .bool true])) w) := MoPost.intro (by simp [mone, hc, hd1, hx])
                obtain ⟨hx1, hx2⟩ := hx
                clear hL hA hd
                go_enter Tryd.func14, Tryd.ntmps14
                go_wp2
                go_ret2
                exact R.out
              · have R : Hid (MoPost (c :: d :: x :: r) w (.returned (.tuple #[.int .i64 0, .bool false])) w) := MoPost.intro (by simp [mone, hc, hd1, hx])
                clear hL hA hd
                go_enter Tryd.func14, Tryd.ntmps14
                go_wp2
                all_goals go_ret2
                all_goals exact R.out
          · have R : Hid (MoPost (c :: d :: r) w (.returned (.tuple #[.int .i64 0, .bool false])) w) := MoPost.intro (by cases r <;> simp [mone, hc, hd, hd1])
            clear hL hA
            go_enter Tryd.func14, Tryd.ntmps14
            go_wp2
            all_goals go_ret2
            all_goals exact R.out
      · have R : Hid (MoPost (c :: d :: r) w (.returned (.tuple #[.int .i64 0, .bool false])) w) := MoPost.intro (by cases r <;> simp [mone, hc])
        have hc' : ¬ (c.toNat : Int) = 45 := by omega
        have hq : ((c.toNat : Int) != 45) = true := by simpa using hc'
        clear hL hA hc
        go_enter Tryd.func14, Tryd.ntmps14
        go_wp2
        go_ret2
        exact R.out
end Go.Proofs.Qxb6003994aDoor

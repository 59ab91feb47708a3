/-
  Seat b6003707a: the law's walk.
-/
import Derived.Test.Qxb6003707aMk
namespace Go.Proofs.Qxb6003707a
open Go.RowKit Go.WideMaps Go.Maps

set_option maxHeartbeats 1000000 in
theorem law_no1 (ao bo : Option Addr) (cap cap2 : Nat) (ss : List ByteArray) (zs : List Int) (p : ByteArray) (w : World) (hc : SAt w ao ss) (hl : ss.length ≤ maxLen) (hl2 : zs.length ≤ maxLen) (hp : p.size ≤ maxLen) (hsz : ∀ s ∈ ss, s.size ≤ maxLen)
    (hno : small ss zs.length p.size = false) :
    Calls Try.prog 5 #[.slice ao ss.length cap, .slice bo zs.length cap2, .string p] w fun e w' => e = .returned (.bool true) ∧ Below w.heap.size w w' := by
  have H12 := hidP (bytes_any ao bo cap zs.length cap2 ss p w hc hl hl2 hp hsz)
  clear hsz hc hl hl2 hp
  go_enter Try.func5, Try.ntmps5
  go_wp2_with (go_at_call 12; refine H12.out.mono ?_; rintro e w2 ⟨rfl, rfl⟩)
  go_ret
  exact ⟨rfl, Below.refl _ _⟩

set_option maxHeartbeats 2000000 in
theorem law_no2 (ao bo : Option Addr) (cap cap2 : Nat) (ss : List ByteArray) (zs : List Int) (p : ByteArray) (w : World) (hc : SAt w ao ss) (hc2 : IAt w bo zs) (hl : ss.length ≤ maxLen) (hl2 : zs.length ≤ maxLen) (hp : p.size ≤ maxLen) (hsz : ∀ s ∈ ss, s.size ≤ maxLen)
    (hyes : ss.length + tot ss + zs.length + p.size ≤ 1048576)
    (hno : ¬ (16 * ss.length + tot ss + 8 * zs.length + p.size ≤ 1048576 ∧ ss.length ≤ 4096 ∧ zs.length = ss.length ∧ fitsS ss 64 = true ∧ p.size ≤ 64 ∧ fitsI zs 65536 = true)) :
    Calls Try.prog 5 #[.slice ao ss.length cap, .slice bo zs.length cap2, .string p] w fun e w' => e = .returned (.bool true) ∧ Below w.heap.size w w' := by
  have H12 := hidP (bytes_any ao bo cap zs.length cap2 ss p w hc hl hl2 hp hsz)
  have hsm : small ss zs.length p.size = true := small_yes hyes
  have H13 := hidP (sbytes_any ao cap ss w hc (by omega) (by omega))
  have H14 := hidP (lens_any ao cap ss 64 w hc (by omega))
  have H15 := hidP (widths_any bo cap2 zs 65536 w hc2 (by omega))
  clear hsz hc hl hl2 hp hc2
  by_cases h1 : 16 * ss.length + tot ss + 8 * zs.length + p.size ≤ 1048576
  · by_cases h2 : ss.length ≤ 4096
    · by_cases h3 : zs.length = ss.length
      · have h3b : ((zs.length : Int) != (ss.length : Int)) = false := by simp [h3]
        cases h4 : fitsS ss 64
        · clear h3 hno
          go_enter Try.func5, Try.ntmps5
          go_wp2_with (first | (go_at_call 12; refine H12.out.mono ?_; rintro e w2 ⟨rfl, rfl⟩) | (go_at_call 13; refine H13.out.mono ?_; rintro e w2 ⟨rfl, rfl⟩) | (go_at_call 14; refine H14.out.mono ?_; rintro e w2 ⟨rfl, rfl⟩))
          go_ret
          exact ⟨rfl, Below.refl _ _⟩
        · by_cases h5 : p.size ≤ 64
          · have h6 : fitsI zs 65536 = false := by
              cases h6 : fitsI zs 65536
              · rfl
              · exact absurd ⟨h1, h2, h3, h4, h5, h6⟩ hno
            clear h3 hno
            go_enter Try.func5, Try.ntmps5
            go_wp2_with (first | (go_at_call 12; refine H12.out.mono ?_; rintro e w2 ⟨rfl, rfl⟩) | (go_at_call 13; refine H13.out.mono ?_; rintro e w2 ⟨rfl, rfl⟩) | (go_at_call 14; refine H14.out.mono ?_; rintro e w2 ⟨rfl, rfl⟩) | (go_at_call 15; refine H15.out.mono ?_; rintro e w2 ⟨rfl, rfl⟩))
            go_ret
            exact ⟨rfl, Below.refl _ _⟩
          · clear h3 hno
            go_enter Try.func5, Try.ntmps5
            go_wp2_with (first | (go_at_call 12; refine H12.out.mono ?_; rintro e w2 ⟨rfl, rfl⟩) | (go_at_call 13; refine H13.out.mono ?_; rintro e w2 ⟨rfl, rfl⟩) | (go_at_call 14; refine H14.out.mono ?_; rintro e w2 ⟨rfl, rfl⟩))
            go_ret
            exact ⟨rfl, Below.refl _ _⟩
      · have h3b : ((zs.length : Int) != (ss.length : Int)) = true := by simp; omega
        clear hno h3
        go_enter Try.func5, Try.ntmps5
        go_wp2_with (first | (go_at_call 12; refine H12.out.mono ?_; rintro e w2 ⟨rfl, rfl⟩) | (go_at_call 13; refine H13.out.mono ?_; rintro e w2 ⟨rfl, rfl⟩))
        go_ret
        exact ⟨rfl, Below.refl _ _⟩
    · clear hno
      go_enter Try.func5, Try.ntmps5
      go_wp2_with (first | (go_at_call 12; refine H12.out.mono ?_; rintro e w2 ⟨rfl, rfl⟩) | (go_at_call 13; refine H13.out.mono ?_; rintro e w2 ⟨rfl, rfl⟩))
      go_ret
      exact ⟨rfl, Below.refl _ _⟩
  · clear hno
    go_enter Try.func5, Try.ntmps5
    go_wp2_with (first | (go_at_call 12; refine H12.out.mono ?_; rintro e w2 ⟨rfl, rfl⟩) | (go_at_call 13; refine H13.out.mono ?_; rintro e w2 ⟨rfl, rfl⟩))
    go_ret
    exact ⟨rfl, Below.refl _ _⟩
end Go.Proofs.Qxb6003707a

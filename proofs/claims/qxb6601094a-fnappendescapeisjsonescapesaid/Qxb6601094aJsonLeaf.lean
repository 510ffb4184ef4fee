/-
  aeShort (19), aeHexValue (20), the bound (16): their contracts.
-/
import Derived.Test.Qxb6601094aEsc
import Derived.Test.Qxb6601094aJsonPlain
namespace Go.Proofs.Qxb6601094a
open Go.RowKit

theorem aeShort_any (r : Int) (w : World) : Calls Try.prog 19 #[.int .i32 r] w fun e w' => e = .returned (.int .u8 (shortOf r)) ∧ w' = w := by
  by_cases c : r = 8 ∨ r = 9 ∨ r = 10 ∨ r = 12 ∨ r = 13
  · rcases c with rfl | rfl | rfl | rfl | rfl
    all_goals
      go_enter Try.func19, Try.ntmps19
      go_wp2
      go_ret
      exact ⟨rfl, rfl⟩
  · simp only [not_or] at c
    have e : shortOf r = 0 := by simp [shortOf, c]
    obtain ⟨c1, c2, c3, c4, c5⟩ := c
    rw [e]
    clear e
    have d1 : (r == 8) = false := by simpa using c1
    have d2 : (r == 9) = false := by simpa using c2
    have d3 : (r == 10) = false := by simpa using c3
    have d4 : (r == 12) = false := by simpa using c4
    have d5 : (r == 13) = false := by simpa using c5
    clear c1 c2 c3 c4 c5
    go_enter Try.func19, Try.ntmps19
    go_wp2
    go_ret
    exact ⟨rfl, rfl⟩

theorem aeHex_low (x : Int) (w : World) (h0 : 0 ≤ x) (h1 : x < 10) : Calls Try.prog 20 #[.int .u8 (48 + x)] w fun e w' => e = .returned (.tuple #[.int .u8 x, .bool true]) ∧ w' = w := by
  go_enter Try.func20, Try.ntmps20
  go_wp2
  go_ret2
  exact ⟨by simp; omega, rfl⟩

theorem aeHex_high (x : Int) (w : World) (h0 : 10 ≤ x) (h1 : x < 16) : Calls Try.prog 20 #[.int .u8 (87 + x)] w fun e w' => e = .returned (.tuple #[.int .u8 x, .bool true]) ∧ w' = w := by
  go_enter Try.func20, Try.ntmps20
  go_wp2
  go_ret2
  exact ⟨by simp; omega, rfl⟩

theorem aeHex_any (x : Int) (w : World) (h0 : 0 ≤ x) (h1 : x < 16) : Calls Try.prog 20 #[.int .u8 (hexd x)] w fun e w' => e = .returned (.tuple #[.int .u8 x, .bool true]) ∧ w' = w := by
  rcases hexd_cases x with ⟨h, e⟩ | ⟨h, e⟩ <;> rw [e]
  · exact aeHex_low x w h0 h
  · exact aeHex_high x w h h1
end Go.Proofs.Qxb6601094a

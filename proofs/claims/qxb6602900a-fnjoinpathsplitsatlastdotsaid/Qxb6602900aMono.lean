/-
  FnJoinPathMonoid (5): the walk.
-/
import Derived.Test.Qxb6602900aJoin
namespace Go.Proofs.Qxb6602900a
open Go.RowKit
set_option linter.unusedVariables false

/-- What the bound's yes says. -/
def TestEnd (Q : Prop) (w : World) (e : Ending) (w' : World) : Prop := ∃ b, e = .returned (.bool b) ∧ w' = w ∧ (b = true → Q)
theorem TestEnd.yes {Q : Prop} {w : World} (h : Q) : TestEnd Q w (.returned (.bool true)) w := ⟨true, rfl, rfl, fun _ => h⟩
theorem TestEnd.no {Q : Prop} {w : World} : TestEnd Q w (.returned (.bool false)) w := ⟨false, rfl, rfl, fun h => by cases h⟩

def Three (a b c : Nat) : Prop := a ≤ 1048576 ∧ b ≤ 1048576 ∧ c ≤ 1048576

theorem zz13_any (a b c : ByteArray) (w : World) (h1 : a.size ≤ maxLen) (h2 : b.size ≤ maxLen) (h3 : c.size ≤ maxLen) :
    Calls Try.prog 13 #[.string a, .string b, .string c] w (TestEnd (Three a.size b.size c.size) w) := by
  unfold maxLen at h1 h2 h3
  by_cases c1 : a.size ≤ 1048576
  · by_cases c2 : b.size ≤ 1048576
    · by_cases c3 : c.size ≤ 1048576
      · go_enter Try.func13, Try.ntmps13
        go_wp2
        all_goals (go_ret; first | exact TestEnd.no | exact TestEnd.yes ⟨c1, c2, c3⟩)
      · go_enter Try.func13, Try.ntmps13
        go_wp2
        all_goals (go_ret; exact TestEnd.no)
    · go_enter Try.func13, Try.ntmps13
      go_wp2
      all_goals (go_ret; exact TestEnd.no)
  · go_enter Try.func13, Try.ntmps13
    go_wp2
    all_goals (go_ret; exact TestEnd.no)

set_option maxHeartbeats 400000 in
theorem mono_walk (a b c : ByteArray) (w : World) (h1 : a.size ≤ maxLen) (h2 : b.size ≤ maxLen) (h3 : c.size ≤ maxLen) :
    Calls Try.prog 5 #[.string a, .string b, .string c] w fun e w' => e = .returned (.bool true) ∧ Below w.heap.size w w' := by
  go_enter Try.func5, Try.ntmps5
  go_wp2_with fail
  refine (zz13_any a b c _ h1 h2 h3).mono ?_
  rintro e w0 ⟨b1, rfl, hw, hb1⟩
  have hw' := hw.symm
  subst hw'
  clear hw h1 h2 h3
  cases b1 with
  | false =>
    clear hb1
    go_wp2
    go_ret
    exact ⟨rfl, Below.refl _ _⟩
  | true =>
    obtain ⟨z1, z2, z3⟩ := hb1 rfl
    clear hb1
    by_cases hsum : a.size + b.size + c.size ≤ 1048576
    · have s1 := jp_size a b
      have s2 := jp_size b c
      go_wp2_with fail
      refine (ZZjoin_any _ a _ (by decide) (by omega)).mono ?_
      rw [jp_nil_left]
      rintro e w3 ⟨rfl, hw⟩
      have hw' := hw.symm
      subst hw'
      clear hw
      go_wp2_with fail
      refine (ZZjoin_any a _ _ (by omega) (by decide)).mono ?_
      rw [jp_nil_right]
      rintro e w3 ⟨rfl, hw⟩
      have hw' := hw.symm
      subst hw'
      clear hw
      go_wp2_with fail
      refine (ZZjoin_any a b _ (by omega) (by omega)).mono ?_
      rintro e w3 ⟨rfl, hw⟩
      have hw' := hw.symm
      subst hw'
      clear hw
      go_wp2_with fail
      refine (ZZjoin_any (jp a b) c _ (by omega) (by omega)).mono ?_
      rw [jp_assoc]
      rintro e w3 ⟨rfl, hw⟩
      have hw' := hw.symm
      subst hw'
      clear hw
      go_wp2_with fail
      refine (ZZjoin_any b c _ (by omega) (by omega)).mono ?_
      rintro e w3 ⟨rfl, hw⟩
      have hw' := hw.symm
      subst hw'
      clear hw
      go_wp2_with fail
      refine (ZZjoin_any a (jp b c) _ (by omega) (by omega)).mono ?_
      rintro e w3 ⟨rfl, hw⟩
      have hw' := hw.symm
      subst hw'
      clear hw
      go_wp2
      go_ret
      exact ⟨by simp, Below.refl _ _⟩
    · go_wp2
      go_ret
      exact ⟨rfl, Below.refl _ _⟩
end Go.Proofs.Qxb6602900a

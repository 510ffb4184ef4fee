/-
  The tests on sizes: zzBytes (9, 15), sbTooBig (10).
-/
import Derived.Test.Qxb6601094aLkBase
import Derived.Test.Qxb6601094aFour
namespace Go.Proofs.Qxb6601094a
open Go.RowKit
set_option linter.unusedVariables false

/-- All is at most 1048576 long. -/
def Sz (a b c d : Nat) (X : Nat → ByteArray) : Prop := a ≤ 1048576 ∧ b ≤ 1048576 ∧ c ≤ 1048576 ∧ d ≤ 1048576 ∧ ∀ r, r < c → (X r).size ≤ 1048576

set_option maxHeartbeats 800000 in
theorem zz9_any (pre post : ByteArray) (ko : Option Addr) (kn kcap : Nat) (to : Option Addr) (tn tcap : Nat) (X : Nat → ByteArray) (obj : Bool) (sp : Int) (w : World) (ht : Texts w to tn X) (h1 : pre.size ≤ maxLen) (h2 : kn ≤ maxLen) (h3 : tn ≤ maxLen) (h4 : ∀ r, r < tn → (X r).size ≤ maxLen) (h5 : post.size ≤ maxLen) :
    Calls Try.prog 9 #[.string pre, .slice ko kn kcap, .slice to tn tcap, .bool obj, .int .u8 sp, .string post] w (TestEnd (Sz pre.size kn tn post.size X) w) := by
  have hbig : ∀ r, r < tn → (X r).size ≤ 9223372036854775807 := fun r hr => by have := h4 r hr; unfold maxLen at this; omega
  unfold maxLen at h1 h2 h3 h5
  obtain ⟨h0, hc⟩ := ht
  have h0' : to = none → Hid (tn ≤ 0) := fun h => Nat.le_of_eq (h0 h)
  clear h0 h4
  by_cases a : pre.size ≤ 1048576
  case neg =>
    clear hc hbig
    go_enter Try.func9, Try.ntmps9
    go_wp2
    go_ret
    exact TestEnd.no
  by_cases b : kn ≤ 1048576
  case neg =>
    clear hc hbig
    go_enter Try.func9, Try.ntmps9
    go_wp2
    go_ret
    exact TestEnd.no
  by_cases c : pre.size + kn ≤ 1048576
  case neg =>
    clear hc hbig
    go_enter Try.func9, Try.ntmps9
    go_wp2
    go_ret
    exact TestEnd.no
  by_cases d : tn ≤ 1048576
  case neg =>
    clear hc hbig
    go_enter Try.func9, Try.ntmps9
    go_wp2
    go_ret
    exact TestEnd.no
  by_cases e : pre.size + kn + tn ≤ 1048576
  case neg =>
    clear hc hbig
    go_enter Try.func9, Try.ntmps9
    go_wp2
    go_ret
    exact TestEnd.no
  cases to with
  | none =>
    have hn0 := h0' rfl
    clear hc h0' hbig
    go_enter Try.func9, Try.ntmps9
    go_wp2
    go_loop [13, 14] (fun t i => ∃ k : Nat, k ≤ tn ∧ i = .int .i64 k ∧ ∃ x : Int, 0 ≤ x ∧ x ≤ 1048576 ∧ t = .int .i64 x) (fun _ i => tn - (intOf i).toNat)
    case atStart => exact ⟨0, Nat.zero_le _, rfl, _, by omega, by omega, rfl⟩
    case round =>
      obtain ⟨k, hk, rfl, x, hx0, hx1, rfl⟩ := hrel
      have hlt : ¬ k < tn := by have := hn0.out; omega
      by_cases hs1 : post.size ≤ 1048576
      · go_wp2
        all_goals (go_ret; first | exact TestEnd.no | exact TestEnd.yes ⟨a, b, d, hs1, fun r hr => by have := hn0.out; omega⟩)
      · go_wp2
        go_ret
        exact TestEnd.no
  | some tb =>
    have hc' := hc tb rfl
    clear hc h0'
    go_enter Try.func9, Try.ntmps9
    go_wp2
    go_loop [13, 14] (fun t i => ∃ k : Nat, k ≤ tn ∧ i = .int .i64 k ∧ (∃ x : Int, 0 ≤ x ∧ x ≤ 1048576 ∧ t = .int .i64 x) ∧ ∀ r, r < k → (X r).size ≤ 1048576) (fun _ i => tn - (intOf i).toNat)
    case atStart => exact ⟨0, Nat.zero_le _, rfl, ⟨_, by omega, by omega, rfl⟩, fun r hr => by omega⟩
    case round =>
      obtain ⟨k, hk, rfl, ⟨x, hx0, hx1, rfl⟩, hr⟩ := hrel
      by_cases hlt : k < tn
      · have hck := hc' k hlt
        have hbk := hbig k hlt
        have HR := hideA hr
        clear hr hc' hbig
        obtain ⟨s, HSs⟩ : ∃ s, Hid (X k = s) := ⟨_, rfl⟩
        rw [HSs.out] at hck hbk
        by_cases hb1 : s.size ≤ 1048576
        · by_cases hb2 : x + s.size ≤ 1048576
          · go_wp2
            go_round
            case rel =>
              refine ⟨k + 1, by omega, by go_num, ⟨x + s.size, by omega, by omega, by go_num⟩, ?_⟩
              intro r hr
              by_cases h : r < k
              · exact HR.out r h
              · have : r = k := by omega
                rw [this, HSs.out]; exact hb1
            case measure => simp [intOf]; omega
          · go_wp2
            go_ret
            exact TestEnd.no
        · go_wp2
          go_ret
          exact TestEnd.no
      · have HR : Hid (∀ r, r < tn → (X r).size ≤ 1048576) := fun r h => hr r (by omega)
        clear hr hc' hbig
        by_cases hs1 : post.size ≤ 1048576
        · go_wp2
          all_goals (go_ret; first | exact TestEnd.no | exact TestEnd.yes ⟨a, b, d, hs1, HR.out⟩)
        · go_wp2
          go_ret
          exact TestEnd.no

set_option maxHeartbeats 800000 in
theorem zz15_any (pre post : ByteArray) (ko : Option Addr) (kn kcap : Nat) (to : Option Addr) (tn tcap : Nat) (X : Nat → ByteArray) (obj : Bool) (sp : Int) (w : World) (ht : Texts w to tn X) (h1 : pre.size ≤ maxLen) (h2 : kn ≤ maxLen) (h3 : tn ≤ maxLen) (h4 : ∀ r, r < tn → (X r).size ≤ maxLen) (h5 : post.size ≤ maxLen) :
    Calls Try.prog 15 #[.string pre, .slice ko kn kcap, .slice to tn tcap, .bool obj, .int .u8 sp, .string post] w (TestEnd (Sz pre.size kn tn post.size X) w) := by
  have hbig : ∀ r, r < tn → (X r).size ≤ 9223372036854775807 := fun r hr => by have := h4 r hr; unfold maxLen at this; omega
  unfold maxLen at h1 h2 h3 h5
  obtain ⟨h0, hc⟩ := ht
  have h0' : to = none → Hid (tn ≤ 0) := fun h => Nat.le_of_eq (h0 h)
  clear h0 h4
  by_cases a : pre.size ≤ 1048576
  case neg =>
    clear hc hbig
    go_enter Try.func15, Try.ntmps15
    go_wp2
    go_ret
    exact TestEnd.no
  by_cases b : kn ≤ 1048576
  case neg =>
    clear hc hbig
    go_enter Try.func15, Try.ntmps15
    go_wp2
    go_ret
    exact TestEnd.no
  by_cases c : pre.size + kn ≤ 1048576
  case neg =>
    clear hc hbig
    go_enter Try.func15, Try.ntmps15
    go_wp2
    go_ret
    exact TestEnd.no
  by_cases d : tn ≤ 1048576
  case neg =>
    clear hc hbig
    go_enter Try.func15, Try.ntmps15
    go_wp2
    go_ret
    exact TestEnd.no
  by_cases e : pre.size + kn + tn ≤ 1048576
  case neg =>
    clear hc hbig
    go_enter Try.func15, Try.ntmps15
    go_wp2
    go_ret
    exact TestEnd.no
  cases to with
  | none =>
    have hn0 := h0' rfl
    clear hc h0' hbig
    go_enter Try.func15, Try.ntmps15
    go_wp2
    go_loop [13, 14] (fun t i => ∃ k : Nat, k ≤ tn ∧ i = .int .i64 k ∧ ∃ x : Int, 0 ≤ x ∧ x ≤ 1048576 ∧ t = .int .i64 x) (fun _ i => tn - (intOf i).toNat)
    case atStart => exact ⟨0, Nat.zero_le _, rfl, _, by omega, by omega, rfl⟩
    case round =>
      obtain ⟨k, hk, rfl, x, hx0, hx1, rfl⟩ := hrel
      have hlt : ¬ k < tn := by have := hn0.out; omega
      by_cases hs1 : post.size ≤ 1048576
      · go_wp2
        all_goals (go_ret; first | exact TestEnd.no | exact TestEnd.yes ⟨a, b, d, hs1, fun r hr => by have := hn0.out; omega⟩)
      · go_wp2
        go_ret
        exact TestEnd.no
  | some tb =>
    have hc' := hc tb rfl
    clear hc h0'
    go_enter Try.func15, Try.ntmps15
    go_wp2
    go_loop [13, 14] (fun t i => ∃ k : Nat, k ≤ tn ∧ i = .int .i64 k ∧ (∃ x : Int, 0 ≤ x ∧ x ≤ 1048576 ∧ t = .int .i64 x) ∧ ∀ r, r < k → (X r).size ≤ 1048576) (fun _ i => tn - (intOf i).toNat)
    case atStart => exact ⟨0, Nat.zero_le _, rfl, ⟨_, by omega, by omega, rfl⟩, fun r hr => by omega⟩
    case round =>
      obtain ⟨k, hk, rfl, ⟨x, hx0, hx1, rfl⟩, hr⟩ := hrel
      by_cases hlt : k < tn
      · have hck := hc' k hlt
        have hbk := hbig k hlt
        have HR := hideA hr
        clear hr hc' hbig
        obtain ⟨s, HSs⟩ : ∃ s, Hid (X k = s) := ⟨_, rfl⟩
        rw [HSs.out] at hck hbk
        by_cases hb1 : s.size ≤ 1048576
        · by_cases hb2 : x + s.size ≤ 1048576
          · go_wp2
            go_round
            case rel =>
              refine ⟨k + 1, by omega, by go_num, ⟨x + s.size, by omega, by omega, by go_num⟩, ?_⟩
              intro r hr
              by_cases h : r < k
              · exact HR.out r h
              · have : r = k := by omega
                rw [this, HSs.out]; exact hb1
            case measure => simp [intOf]; omega
          · go_wp2
            go_ret
            exact TestEnd.no
        · go_wp2
          go_ret
          exact TestEnd.no
      · have HR : Hid (∀ r, r < tn → (X r).size ≤ 1048576) := fun r h => hr r (by omega)
        clear hr hc' hbig
        by_cases hs1 : post.size ≤ 1048576
        · go_wp2
          all_goals (go_ret; first | exact TestEnd.no | exact TestEnd.yes ⟨a, b, d, hs1, HR.out⟩)
        · go_wp2
          go_ret
          exact TestEnd.no

set_option maxHeartbeats 800000 in
theorem sbTooBig_any (pre post : ByteArray) (ko : Option Addr) (kn kcap : Nat) (to : Option Addr) (tn tcap : Nat) (X : Nat → ByteArray) (w : World) (ht : Texts w to tn X) (hz : Sz pre.size kn tn post.size X) :
    Calls Try.prog 10 #[.string pre, .slice ko kn kcap, .slice to tn tcap, .string post] w (TestNot True w) := by
  obtain ⟨a, b, c, d, z⟩ := hz
  obtain ⟨h0, hc⟩ := ht
  have h0' : to = none → Hid (tn ≤ 0) := fun h => Nat.le_of_eq (h0 h)
  clear h0
  by_cases e1 : pre.size ≤ 262144
  case neg =>
    clear hc z
    go_enter Try.func10, Try.ntmps10
    go_wp2
    go_ret
    exact TestNot.yes
  by_cases e2 : post.size ≤ 262144
  case neg =>
    clear hc z
    go_enter Try.func10, Try.ntmps10
    go_wp2
    go_ret
    exact TestNot.yes
  by_cases e3 : kn ≤ 262144
  case neg =>
    clear hc z
    go_enter Try.func10, Try.ntmps10
    go_wp2
    go_ret
    exact TestNot.yes
  by_cases e4 : tn ≤ 262144
  case neg =>
    clear hc z
    go_enter Try.func10, Try.ntmps10
    go_wp2
    go_ret
    exact TestNot.yes
  cases to with
  | none =>
    have hn0 := h0' rfl
    clear hc h0' z
    go_enter Try.func10, Try.ntmps10
    go_wp2
    go_loop [9, 10] (fun t i => ∃ k : Nat, k ≤ tn ∧ i = .int .i64 k ∧ ∃ x : Int, 0 ≤ x ∧ x ≤ 10000000 ∧ t = .int .i64 x) (fun _ i => tn - (intOf i).toNat)
    case atStart => exact ⟨0, Nat.zero_le _, rfl, _, by omega, by omega, rfl⟩
    case round =>
      obtain ⟨k, hk, rfl, x, hx0, hx1, rfl⟩ := hrel
      have hlt : ¬ k < tn := by have := hn0.out; omega
      go_wp2
      go_ret
      exact TestNot.of trivial
  | some tb =>
    have hc' := hc tb rfl
    clear hc h0'
    go_enter Try.func10, Try.ntmps10
    go_wp2
    go_loop [9, 10] (fun t i => ∃ k : Nat, k ≤ tn ∧ i = .int .i64 k ∧ ∃ x : Int, 0 ≤ x ∧ x ≤ 10000000 ∧ t = .int .i64 x) (fun _ i => tn - (intOf i).toNat)
    case atStart => exact ⟨0, Nat.zero_le _, rfl, _, by omega, by omega, rfl⟩
    case round =>
      obtain ⟨k, hk, rfl, x, hx0, hx1, rfl⟩ := hrel
      by_cases hlt : k < tn
      · have hck := hc' k hlt
        have hbk := z k hlt
        clear z hc'
        obtain ⟨s, HSs⟩ : ∃ s, Hid (X k = s) := ⟨_, rfl⟩
        rw [HSs.out] at hck hbk
        by_cases hb2 : x + s.size ≤ 262144
        · go_wp2
          go_round
          case rel => exact ⟨k + 1, by omega, by go_num, x + s.size, by omega, by omega, by go_num⟩
          case measure => simp [intOf]; omega
        · go_wp2
          go_ret
          exact TestNot.yes
      · clear hc' z
        go_wp2
        go_ret
        exact TestNot.of trivial
end Go.Proofs.Qxb6601094a

/-
  FnJoinPathSplitsAtLastDot (6): the walk.
-/
import Derived.Test.Qxb6602900aMono
namespace Go.Proofs.Qxb6602900a
open Go.RowKit
set_option linter.unusedVariables false

def Two (a b : Nat) : Prop := a ≤ 1048576 ∧ b ≤ 1048576

theorem zz15_any (a b : ByteArray) (w : World) (h1 : a.size ≤ maxLen) (h2 : b.size ≤ maxLen) :
    Calls Try.prog 15 #[.string a, .string b] w (TestEnd (Two a.size b.size) w) := by
  unfold maxLen at h1 h2
  by_cases c1 : a.size ≤ 1048576
  · by_cases c2 : b.size ≤ 1048576
    · go_enter Try.func15, Try.ntmps15
      go_wp2
      all_goals (go_ret; first | exact TestEnd.no | exact TestEnd.yes ⟨c1, c2⟩)
    · go_enter Try.func15, Try.ntmps15
      go_wp2
      all_goals (go_ret; exact TestEnd.no)
  · go_enter Try.func15, Try.ntmps15
    go_wp2
    all_goals (go_ret; exact TestEnd.no)

theorem get_data (s : ByteArray) (k : Nat) (hk : k < s.size) : s[k] = s.data.toList[k]'hk := rfl

/-- Where the joined path has its bytes. -/
theorem jp_parts {p n : ByteArray} (hp : p.toList.isEmpty = false) (hn : n.toList.isEmpty = false) :
    (jp p n).size = p.size + n.size + 1 ∧ (∀ h : p.size < (jp p n).size, (jp p n)[p.size].toNat = 46) ∧
    (∀ q (h : q < (jp p n).size) (h' : q - p.size - 1 < n.size), p.size < q → (jp p n)[q] = n[q - p.size - 1]) ∧
    (jp p n).extract 0 p.size = p ∧ (jp p n).extract (p.size + 1) (jp p n).size = n := by
  have e : (jp p n).data.toList = p.data.toList ++ 46 :: n.data.toList := by
    rw [ByteArray.toList_eq] at hp hn
    rw [jp_data, jl, if_neg]
    simp only [List.isEmpty_eq_false_iff] at hp hn
    simp [hp, hn]
  have hps : p.data.toList.length = p.size := rfl
  have hsz : (jp p n).size = p.size + n.size + 1 := by
    show (jp p n).data.toList.length = _
    rw [e]
    simp only [List.length_append, List.length_cons]
    show p.size + (n.size + 1) = _
    omega
  refine ⟨hsz, fun h => ?_, fun q h h' hq => ?_, ?_, ?_⟩
  · rw [get_data]
    simp only [e]
    rw [List.getElem_append_right (by omega)]
    simp [hps]
  · rw [get_data, get_data]
    simp only [e]
    rw [List.getElem_append_right (by omega)]
    have : q - p.data.toList.length = (q - p.size - 1) + 1 := by omega
    simp only [this, List.getElem_cons_succ]
  · apply ba_ext
    rw [ByteArray.data_extract]
    simp only [Array.toList_extract]
    rw [e]
    simp [hps]
  · apply ba_ext
    rw [ByteArray.data_extract]
    simp only [Array.toList_extract]
    rw [e, hsz]
    have h2 : p.data.toList ++ 46 :: n.data.toList = (p.data.toList ++ [46]) ++ n.data.toList := by simp
    rw [h2]
    have h3 : (p.data.toList ++ [46]).length = p.size + 1 := by simp [hps]
    have h4 : n.data.toList.length = n.size := rfl
    rw [List.extract_eq_take_drop, ← h3, List.drop_left, List.take_of_length_le (by rw [h3, h4]; omega)]

set_option maxHeartbeats 400000 in
theorem split_walk (a b : ByteArray) (w : World) (h1 : a.size ≤ maxLen) (h2 : b.size ≤ maxLen) :
    Calls Try.prog 6 #[.string a, .string b] w fun e w' => e = .returned (.bool true) ∧ Below w.heap.size w w' := by
  go_enter Try.func6, Try.ntmps6
  go_wp2_with fail
  refine (zz15_any a b _ h1 h2).mono ?_
  rintro e w0 ⟨b1, rfl, hw, hb1⟩
  have hw' := hw.symm
  subst hw'
  clear hw h1 h2
  cases b1 with
  | false =>
    clear hb1
    go_wp2
    go_ret
    exact ⟨rfl, Below.refl _ _⟩
  | true =>
    obtain ⟨z1, z2⟩ := hb1 rfl
    clear hb1
    by_cases hsum : a.size + b.size ≤ 1048576
    case neg =>
      go_wp2
      go_ret
      exact ⟨rfl, Below.refl _ _⟩
    cases ha : a.toList.isEmpty
    case true =>
      have ha' : a.toList = [] := by simpa using ha
      go_wp2
      go_ret
      exact ⟨rfl, Below.refl _ _⟩
    cases hb : b.toList.isEmpty
    case true =>
      have ha' : ¬ a.toList = [] := by simpa using ha
      go_wp2
      go_ret
      exact ⟨rfl, Below.refl _ _⟩
    have ha' : ¬ a.toList = [] := by simpa using ha
    go_wp2
    go_loop [5] (fun i => ∃ k : Nat, k ≤ b.size ∧ i = .int .i64 k ∧ ∀ j (h : j < b.size), j < k → b[j].toNat ≠ 46) (fun i => b.size - (intOf i).toNat)
    case atStart => exact ⟨0, Nat.zero_le _, rfl, fun j h hj => by omega⟩
    case round =>
      obtain ⟨k, hk, rfl, hno⟩ := hrel
      have HN := hide hno
      clear hno
      by_cases hlt : k < b.size
      · go_wp2
        · go_ret
          exact ⟨rfl, Below.refl _ _⟩
        · have hne : ((b[k].toNat : Int) == 46) = false := by assumption
          go_round
          case rel =>
            refine ⟨k + 1, by omega, by go_num, ?_⟩
            intro j h hj
            by_cases hjk : j < k
            · exact HN.out j h hjk
            · have : j = k := by omega
              subst this
              simp at hne
              omega
          case measure => simp [intOf]; omega
      · obtain ⟨s1, s2, s3, s4, s5⟩ := jp_parts ha hb
        have HD : Hid (∀ q (h : q < (jp a b).size), a.size < q → (jp a b)[q].toNat ≠ 46) := by
          intro q h hq
          rw [s3 q h (by omega) hq]
          exact HN.out _ _ (by omega)
        have HA := hide s2
        have H4 := hide s4
        have H5 := hide s5
        clear s2 s3 s4 s5 HN
        go_wp2_with fail
        refine (ZZjoin_any a b _ (by omega) (by omega)).mono ?_
        rintro e w3 ⟨rfl, hw⟩
        have hw' := hw.symm
        subst hw'
        clear hw
        have t1 : (jp a b).size ≤ a.size + b.size + 1 ∧ a.size + b.size + 1 ≤ (jp a b).size := by omega
        obtain ⟨t1, t2⟩ := t1
        clear s1
        generalize jp a b = r at *
        go_wp2
        go_loop [7] (fun i => ∃ q : Nat, a.size ≤ q ∧ q < r.size ∧ i = .int .i64 q) (fun i => (intOf i).toNat)
        case atStart => exact ⟨r.size - 1, by omega, by omega, by go_num⟩
        case round =>
          obtain ⟨q, hq1, hq2, rfl⟩ := hrel
          by_cases hgt : a.size < q
          · have hne : ((r[q].toNat : Int) != 46) = true := by have := HD.out q hq2 hgt; simp; omega
            go_wp2
            go_round
            case rel => exact ⟨q - 1, by omega, by omega, by go_num⟩
            case measure => simp [intOf]; omega
          · have hqa : Hid (q = a.size) := by have : q = a.size := by omega
                                              exact this
            have hne : ((r[q].toNat : Int) != 46) = false := by
              have h0 := hqa.out
              subst h0
              have := HA.out hq2
              simp; omega
            have x1 : r.extract 0 q = a := by rw [hqa.out]; exact H4.out
            have x2 : r.extract (q + 1) r.size = b := by rw [hqa.out]; exact H5.out
            clear HD HA H4 H5
            go_wp2
            go_ret
            exact ⟨rfl, Below.refl _ _⟩
end Go.Proofs.Qxb6602900a

/-
  isSpace (36), skipSpace (34), skipString (35).
-/
import Derived.Test.Qxb6601094aRows
import Derived.WalkKit
import Derived.WalkSpells
import Derived.WalkLawsBesides
namespace Go.Proofs.Qxb6601094a
open Go.RowKit
set_option linter.unusedVariables false

theorem hideS {p : Prop} (h : p) : Hid p := h

/-- Is c a space of JSON's? -/
def isSp (c : Int) : Bool := c == 32 || c == 9 || c == 13 || c == 10

theorem isSpace_any (c : Int) (w : World) : Calls Try.prog 36 #[.int .u8 c] w fun e w' => e = .returned (.bool (isSp c)) ∧ w' = w := by
  cases h1 : (c == 32)
  · cases h2 : (c == 9)
    · cases h3 : (c == 13)
      · cases h4 : (c == 10)
        · rw [show isSp c = false by simp only [isSp, h1, h2, h3, h4]; rfl]
          go_enter Try.func36, Try.ntmps36
          go_wp2
          go_ret
          exact ⟨rfl, rfl⟩
        · rw [show isSp c = true by simp only [isSp, h1, h2, h3, h4]; rfl]
          go_enter Try.func36, Try.ntmps36
          go_wp2
          go_ret
          exact ⟨rfl, rfl⟩
      · rw [show isSp c = true by simp only [isSp, h1, h2, h3]; rfl]
        go_enter Try.func36, Try.ntmps36
        go_wp2
        go_ret
        exact ⟨rfl, rfl⟩
    · rw [show isSp c = true by simp only [isSp, h1, h2]; rfl]
      go_enter Try.func36, Try.ntmps36
      go_wp2
      go_ret
      exact ⟨rfl, rfl⟩
  · rw [show isSp c = true by simp only [isSp, h1]; rfl]
    go_enter Try.func36, Try.ntmps36
    go_wp2
    go_ret
    exact ⟨rfl, rfl⟩

/-- The cells of a row of bytes. -/
def Cells (w : World) (g n : Nat) (zs : List Int) : Prop := zs.length = n ∧ ∀ j, j < n → w.cell? ⟨g, j, none⟩ = some (.int .u8 (zs.getD j 0))

set_option maxHeartbeats 400000 in
theorem skipSpace_any (g n cap : Nat) (zs : List Int) (p m : Nat) (w : World) (hc : Cells w g n zs) (hn : n ≤ 70000000000000) (hs : ∀ j, j < m → isSp (zs.getD (p + j) 0) = true) (he : isSp (zs.getD (p + m) 0) = false) (hp : p + m < n) :
    Calls Try.prog 34 #[.slice (some ⟨g, 0, none⟩) n cap, .int .i64 p] w fun e w' => e = .returned (.int .i64 ((p + m : Nat) : Int)) ∧ w' = w := by
  have HC := hideS hc.2
  have HS := hideS hs
  have HE := hideS he
  clear hc hs he
  go_enter Try.func34, Try.ntmps34
  go_wp2
  go_loop [1] (fun i => ∃ q : Nat, p ≤ q ∧ q ≤ p + m ∧ i = .int .i64 q) (fun i => p + m - (intOf i).toNat)
  case atStart => exact ⟨p, Nat.le_refl _, by omega, rfl⟩
  case round =>
    obtain ⟨q, hq1, hq2, rfl⟩ := hrel
    have hcell := HC.out q (by omega)
    by_cases hlt : q < p + m
    · have hsp : isSp (zs.getD q 0) = true := by have := HS.out (q - p) (by omega); rwa [show p + (q - p) = q by omega] at this
      have hqn : (q : Int) < (n : Int) := by omega
      generalize zs.getD q 0 = c at *
      go_wp2_with (go_at_call 36; refine (isSpace_any c _).mono ?_; rw [hsp]; rintro e w3 ⟨rfl, hw3⟩; have hw4 := hw3.symm; subst hw4; clear hw3)
      go_round
      case rel => exact ⟨q + 1, by omega, by omega, by go_num⟩
      case measure => simp [intOf]; omega
    · have hqe : Hid (q = p + m) := by have : q = p + m := by omega
                                       exact this
      have hsp : isSp (zs.getD q 0) = false := by rw [hqe.out]; exact HE.out
      have hqn : (q : Int) < (n : Int) := by omega
      generalize zs.getD q 0 = c at *
      go_wp2_with (go_at_call 36; refine (isSpace_any c _).mono ?_; rw [hsp]; rintro e w3 ⟨rfl, hw3⟩; have hw4 := hw3.symm; subst hw4; clear hw3)
      go_ret
      exact ⟨by rw [← hqe.out]; rfl, rfl⟩

/-- What may stand between the quotes: a backslash takes the byte behind it along; no bare quote. -/
def body : List Int → Bool
  | [] => true
  | [c] => c != 92 && c != 34
  | c :: d :: l => if c = 92 then body l else c != 34 && body (d :: l)

theorem drop_cons {zs : List Int} {q : Nat} {c : Int} {r : List Int} (h : zs.drop q = c :: r) : q < zs.length ∧ zs.getD q 0 = c ∧ zs.drop (q + 1) = r := by
  have hlt : q < zs.length := by
    rcases Nat.lt_or_ge q zs.length with h1 | h1
    · exact h1
    · rw [List.drop_eq_nil_of_le h1] at h; cases h
  have e := List.drop_eq_getElem_cons hlt
  rw [h] at e
  simp only [List.cons.injEq] at e
  refine ⟨hlt, ?_, e.2.symm⟩
  simp only [List.getD_eq_getElem?_getD, List.getElem?_eq_getElem hlt, Option.getD_some]
  exact e.1.symm

set_option maxHeartbeats 400000 in
theorem skipString_any (g n cap : Nat) (zs : List Int) (p : Nat) (l r : List Int) (w : World) (hc : Cells w g n zs) (hn : n ≤ 70000000000000) (hd : zs.drop (p + 1) = l ++ 34 :: r) (hb : body l = true) (x : Nat) (hx : p + 1 + l.length + 1 = x) :
    Calls Try.prog 35 #[.slice (some ⟨g, 0, none⟩) n cap, .int .i64 p] w fun e w' => e = .returned (.int .i64 (x : Int)) ∧ w' = w := by
  have HC := hideS hc
  have hp : p < n := by
    have := congrArg List.length hd
    simp only [List.length_drop, List.length_append, List.length_cons] at this
    have := hc.1
    omega
  have HD := hideS (And.intro hd hb)
  have HX := hideS hx
  clear hc hd hb hx
  go_enter Try.func35, Try.ntmps35
  go_wp2
  go_loop [1] (fun i => ∃ (q : Nat) (l' : List Int), i = .int .i64 q ∧ Hid (zs.drop q = l' ++ 34 :: r ∧ body l' = true ∧ q + l'.length = p + 1 + l.length)) (fun i => n + 2 - (intOf i).toNat)
  case atStart => exact ⟨p + 1, l, by go_num, HD.out.1, HD.out.2, rfl⟩
  case round =>
    obtain ⟨q, l', rfl, HQ⟩ := hrel
    clear HD
    match l', HQ with
    | [], HQ =>
      obtain ⟨h1, h2, h3⟩ := drop_cons HQ.out.1
      have hqn : q < n := by rw [← HC.out.1]; exact h1
      have hcell := HC.out.2 q hqn
      rw [h2] at hcell
      clear h1 h2 h3
      go_wp2
      go_ret
      refine ⟨?_, rfl⟩
      have := HQ.out.2.2
      simp only [List.length_nil, Nat.add_zero] at this
      have h2 := HX.out
      show Ending.returned (.int .i64 ((q : Int) + 1)) = .returned (.int .i64 (x : Int))
      rw [show (x : Int) = (q : Int) + 1 by omega]
    | [c], HQ =>
      obtain ⟨h1, h2, h3⟩ := drop_cons HQ.out.1
      have hqn : q < n := by rw [← HC.out.1]; exact h1
      have hcell := HC.out.2 q hqn
      rw [h2] at hcell
      have HN : Hid (zs.drop (q + 1) = [] ++ 34 :: r ∧ body [] = true ∧ q + 1 + ([] : List Int).length = p + 1 + l.length) := ⟨h3, rfl, HQ.out.2.2⟩
      have hbd := HQ.out.2.1
      simp only [body, Bool.and_eq_true, bne_iff_ne, ne_eq] at hbd
      have c1 : (c == 34) = false := by simpa using hbd.2
      have c2 : (c == 92) = false := by simpa using hbd.1
      clear h1 h2 h3 hbd HQ
      go_wp2
      go_round
      case rel => exact ⟨q + 1, [], by go_num, HN⟩
      case measure => simp [intOf]; omega
    | c :: d :: l', HQ =>
      obtain ⟨h1, h2, h3⟩ := drop_cons HQ.out.1
      have hqn : q < n := by rw [← HC.out.1]; exact h1
      have hcell := HC.out.2 q hqn
      rw [h2] at hcell
      have hbd := HQ.out.2.1
      have hll := HQ.out.2.2
      simp only [body] at hbd
      by_cases h92 : c = 92
      · rw [if_pos h92] at hbd
        obtain ⟨h4, h5, h6⟩ := drop_cons h3
        have HN : Hid (zs.drop (q + 2) = l' ++ 34 :: r ∧ body l' = true ∧ q + 2 + l'.length = p + 1 + l.length) := ⟨h6, hbd, by simp only [List.length_cons] at hll; omega⟩
        have hqn2 : q + 1 < n := by rw [← HC.out.1]; exact h4
        have c1 : (c == 34) = false := by simp [h92]
        have c2 : (c == 92) = true := by simp [h92]
        clear h1 h2 h3 h4 h5 h6 hbd HQ hll h92
        go_wp2
        go_round
        case rel => exact ⟨q + 2, l', by go_num, HN⟩
        case measure => simp [intOf]; omega
      · rw [if_neg h92] at hbd
        simp only [Bool.and_eq_true, bne_iff_ne, ne_eq] at hbd
        have HN : Hid (zs.drop (q + 1) = (d :: l') ++ 34 :: r ∧ body (d :: l') = true ∧ q + 1 + (d :: l').length = p + 1 + l.length) := ⟨h3, hbd.2, by simp only [List.length_cons] at hll ⊢; omega⟩
        have c1 : (c == 34) = false := by simpa using hbd.1
        have c2 : (c == 92) = false := by simpa using h92
        clear h1 h2 h3 hbd HQ hll h92
        go_wp2
        go_round
        case rel => exact ⟨q + 1, d :: l', by go_num, HN⟩
        case measure => simp [intOf]; omega
end Go.Proofs.Qxb6601094a

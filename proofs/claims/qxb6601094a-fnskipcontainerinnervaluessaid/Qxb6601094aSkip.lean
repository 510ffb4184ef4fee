/-
  skipContainer (30), ZZskipContainer (14).
-/
import Derived.Test.Qxb6601094aScan
namespace Go.Proofs.Qxb6601094a
open Go.RowKit
set_option linter.unusedVariables false

/-- The bytes of a list of tokens: a string, by what stands between its quotes; or one other byte. -/
def flat : List (Sum (List Int) Int) → List Int
  | [] => []
  | .inl b :: ts => 34 :: (b ++ 34 :: flat ts)
  | .inr c :: ts => c :: flat ts

def okT : List (Sum (List Int) Int) → Prop
  | [] => True
  | .inl b :: ts => body b = true ∧ okT ts
  | .inr c :: ts => c ≠ 34 ∧ okT ts

/-- The scan from depth d and cm commas on stops just behind the last token, with m members. -/
def Stops : List (Sum (List Int) Int) → Int → Int → Int → Prop
  | [], _, _, _ => False
  | .inl _ :: ts, d, cm, m => Stops ts d cm m
  | .inr c :: ts, d, cm, m =>
    if c = 123 ∨ c = 91 then Stops ts (d + 1) cm m
    else if c = 125 ∨ c = 93 then (if d - 1 = 0 then ts = [] ∧ m = cm + 1 else Stops ts (d - 1) cm m)
    else if c = 44 then Stops ts d (if d = 1 then cm + 1 else cm) m
    else Stops ts d cm m

/-- What the loop keeps. -/
def Inv (zs r : List Int) (E : Nat) (m : Int) (q : Nat) (d cm : Int) : Prop :=
  ∃ ts, zs.drop q = flat ts ++ r ∧ okT ts ∧ Stops ts d cm m ∧ q + (flat ts).length = E

theorem Inv.cases {zs r : List Int} {E : Nat} {m : Int} {q : Nat} {d cm : Int} (h : Inv zs r E m q d cm) :
    (∃ l r', zs.drop (q + 1) = l ++ 34 :: r' ∧ q < zs.length ∧ q + 1 + l.length < zs.length ∧ zs.getD q 0 = 34 ∧ body l = true ∧ Inv zs r E m (q + l.length + 2) d cm) ∨
    (∃ c, zs.getD q 0 = c ∧ q < zs.length ∧ c ≠ 34 ∧
      (((c = 123 ∨ c = 91) ∧ Inv zs r E m (q + 1) (d + 1) cm) ∨
       ((c = 125 ∨ c = 93) ∧ d - 1 = 0 ∧ q + 1 = E ∧ m = cm + 1) ∨
       ((c = 125 ∨ c = 93) ∧ d - 1 ≠ 0 ∧ Inv zs r E m (q + 1) (d - 1) cm) ∨
       (c = 44 ∧ d = 1 ∧ Inv zs r E m (q + 1) d (cm + 1)) ∨
       (c = 44 ∧ d ≠ 1 ∧ Inv zs r E m (q + 1) d cm) ∨
       (c ≠ 123 ∧ c ≠ 91 ∧ c ≠ 125 ∧ c ≠ 93 ∧ c ≠ 44 ∧ Inv zs r E m (q + 1) d cm))) := by
  obtain ⟨ts, h1, h2, h3, h4⟩ := h
  match ts, h1, h2, h3, h4 with
  | [], _, _, h3, _ => exact absurd h3 id
  | .inl b :: ts, h1, h2, h3, h4 =>
    left
    simp only [flat, List.cons_append, List.append_assoc] at h1
    obtain ⟨g1, g2, g3⟩ := drop_cons h1
    have g4 := congrArg List.length g3
    simp only [List.length_drop, List.length_append, List.length_cons] at g4
    refine ⟨b, flat ts ++ r, g3, g1, by omega, g2, h2.1, ts, ?_, h2.2, h3, ?_⟩
    · have := congrArg (List.drop (b.length + 1)) g3
      rw [List.drop_drop] at this
      rw [show q + b.length + 2 = q + 1 + (b.length + 1) by omega, this]
      rw [List.drop_append]
      simp
    · simp only [flat, List.length_cons, List.length_append] at h4
      omega
  | .inr c :: ts, h1, h2, h3, h4 =>
    right
    simp only [flat, List.cons_append] at h1
    obtain ⟨g1, g2, g3⟩ := drop_cons h1
    simp only [flat, List.length_cons] at h4
    refine ⟨c, g2, g1, h2.1, ?_⟩
    simp only [Stops] at h3
    by_cases a1 : c = 123 ∨ c = 91
    · rw [if_pos a1] at h3
      exact .inl ⟨a1, ts, g3, h2.2, h3, by omega⟩
    · rw [if_neg a1] at h3
      by_cases a2 : c = 125 ∨ c = 93
      · rw [if_pos a2] at h3
        by_cases a3 : d - 1 = 0
        · rw [if_pos a3] at h3
          obtain ⟨rfl, h5⟩ := h3
          exact .inr (.inl ⟨a2, a3, by simpa [flat] using h4, h5⟩)
        · rw [if_neg a3] at h3
          exact .inr (.inr (.inl ⟨a2, a3, ts, g3, h2.2, h3, by omega⟩))
      · rw [if_neg a2] at h3
        by_cases a4 : c = 44
        · rw [if_pos a4] at h3
          by_cases a5 : d = 1
          · rw [if_pos a5] at h3
            exact .inr (.inr (.inr (.inl ⟨a4, a5, ts, g3, h2.2, h3, by omega⟩)))
          · rw [if_neg a5] at h3
            exact .inr (.inr (.inr (.inr (.inl ⟨a4, a5, ts, g3, h2.2, h3, by omega⟩))))
        · rw [if_neg a4] at h3
          simp only [not_or] at a1 a2
          exact .inr (.inr (.inr (.inr (.inr ⟨a1.1, a1.2, a2.1, a2.2, a4, ts, g3, h2.2, h3, by omega⟩))))

theorem skipSpace_at (g n cap : Nat) (zs : List Int) (p m : Nat) (a : Int) (y : Nat) (w : World) (ha : a = (p : Int)) (hy : y = p + m) (hc : Cells w g n zs) (hn : n ≤ 70000000000000) (hs : ∀ j, j < m → isSp (zs.getD (p + j) 0) = true) (he : isSp (zs.getD (p + m) 0) = false) (hp : p + m < n) :
    Calls Try.prog 34 #[.slice (some ⟨g, 0, none⟩) n cap, .int .i64 a] w fun e w' => e = .returned (.int .i64 (y : Int)) ∧ w' = w := by
  subst ha hy
  exact skipSpace_any g n cap zs p m w hc hn hs he hp

set_option maxHeartbeats 400000 in
theorem skipContainer_none (g n cap : Nat) (zs : List Int) (p q0 : Nat) (w : World) (hc : Cells w g n zs) (hn : n ≤ 70000000000000) (hs : ∀ j, j < q0 → isSp (zs.getD (p + 1 + j) 0) = true) (he : zs.getD (p + 1 + q0) 0 = 93 ∨ zs.getD (p + 1 + q0) 0 = 125) (hp : p + 1 + q0 < n)
    (x : Nat) (hx : p + 1 + q0 + 1 = x) :
    Calls Try.prog 30 #[.slice (some ⟨g, 0, none⟩) n cap, .int .i64 p] w fun e w' => e = .returned (.tuple #[.int .i64 (x : Int), .int .i64 0]) ∧ w' = w := by
  have HC := hideS hc
  have HS := hideS hs
  have HX := hideS hx
  have hnsp : Hid (isSp (zs.getD (p + 1 + q0) 0) = false) := hideS (by rcases he with h | h <;> rw [h] <;> decide)
  clear hc hs hx
  have hpn : p + 1 < n := by omega
  obtain ⟨f, hf⟩ : ∃ f, f = p + 1 + q0 := ⟨_, rfl⟩
  have hcell := HC.out.2 (p + 1 + q0) hp
  rw [← hf] at hcell hp he
  have HF := hideS hf
  clear hf
  rcases he with he | he
  all_goals
    rw [he] at hcell
    clear he
    go_enter Try.func30, Try.ntmps30
    go_wp2_with fail
    refine (skipSpace_at g n cap zs (p + 1) q0 _ f _ (by omega) (by have := HF.out; omega) HC.out hn HS.out hnsp.out (by have := HF.out; omega)).mono ?_
    rintro e w3 ⟨rfl, hw3⟩
    have hw4 := hw3.symm
    subst hw4
    clear hw3
    go_wp2
    go_ret2
    refine ⟨?_, rfl⟩
    have h1 := HF.out
    have h2 := HX.out
    show Ending.returned (.tuple #[.int .i64 ((f : Int) + 1), .int .i64 0]) = _
    rw [show (x : Int) = (f : Int) + 1 by omega]

set_option maxHeartbeats 1000000 in
theorem skipContainer_some (g n cap : Nat) (zs r : List Int) (p q0 E : Nat) (m : Int) (w : World) (hc : Cells w g n zs) (hn : n ≤ 70000000000000) (hs : ∀ j, j < q0 → isSp (zs.getD (p + 1 + j) 0) = true) (he : isSp (zs.getD (p + 1 + q0) 0) = false) (h93 : zs.getD (p + 1 + q0) 0 ≠ 93) (h125 : zs.getD (p + 1 + q0) 0 ≠ 125) (hp : p + 1 + q0 < n)
    (hI : Inv zs r E m p 0 0) :
    Calls Try.prog 30 #[.slice (some ⟨g, 0, none⟩) n cap, .int .i64 p] w fun e w' => e = .returned (.tuple #[.int .i64 (E : Int), .int .i64 m]) ∧ w' = w := by
  have HC := hideS hc
  have HS := hideS hs
  have HE := hideS he
  have HI := hideS hI
  clear hc hs he hI
  have hpn : p + 1 < n := by omega
  obtain ⟨f, hf⟩ : ∃ f, f = p + 1 + q0 := ⟨_, rfl⟩
  have hcell := HC.out.2 (p + 1 + q0) hp
  rw [← hf] at hcell hp h93 h125
  have HF := hideS hf
  clear hf
  have c1 : (zs.getD f 0 == 93) = false := by simpa using h93
  have c2 : (zs.getD f 0 == 125) = false := by simpa using h125
  generalize zs.getD f 0 = c at *
  clear h93 h125
  go_enter Try.func30, Try.ntmps30
  go_wp2_with fail
  refine (skipSpace_at g n cap zs (p + 1) q0 _ f _ (by omega) (by have := HF.out; omega) HC.out hn HS.out HE.out (by have := HF.out; omega)).mono ?_
  rintro e w3 ⟨rfl, hw3⟩
  have hw4 := hw3.symm
  subst hw4
  clear hw3
  go_wp2
  clear hcell c1 c2 HS HE HF
  go_loop [7, 8, 9] (fun vd vc i => ∃ (q : Nat) (d cm : Int), i = .int .i64 q ∧ vd = .int .i64 d ∧ vc = .int .i64 cm ∧ Hid (Inv zs r E m q d cm) ∧ -(q : Int) ≤ d ∧ d ≤ q ∧ 0 ≤ cm ∧ cm ≤ q) (fun _ _ i => n + 2 - (intOf i).toNat)
  case atStart => exact ⟨p, 0, 0, rfl, rfl, rfl, HI, by omega, by omega, by omega, by omega⟩
  case round =>
    obtain ⟨q, d, cm, rfl, rfl, rfl, HI', hd1, hd2, hm1, hm2⟩ := hrel
    clear HI
    rcases HI'.out.cases with ⟨l, r', k1, k2, k3, k4, k5, k6⟩ | ⟨c, k1, k2, k3, kk⟩
    · have hqn : q < n := by rw [← HC.out.1]; exact k2
      have hln : q + 1 + l.length < n := by rw [← HC.out.1]; exact k3
      have hcell := HC.out.2 q hqn
      rw [k4] at hcell
      have HD := hideS (And.intro k1 k5)
      have HN := hideS k6
      clear k1 k2 k3 k4 k5 k6 HI'
      obtain ⟨x, hx⟩ : ∃ x, q + 1 + l.length + 1 = x := ⟨_, rfl⟩
      have HX := hideS hx
      have hx1 : q + 2 ≤ x := by omega
      have hx2 : x ≤ n := by omega
      clear hx hln
      go_wp2_with (go_at_call 35; refine (skipString_any g n cap zs q l r' _ HC.out hn HD.out.1 HD.out.2 x HX.out).mono ?_; rintro e w3 ⟨rfl, hw3⟩; have hw4 := hw3.symm; subst hw4; clear hw3)
      go_round
      case rel =>
        refine ⟨x, d, cm, by go_num, rfl, rfl, ?_, by omega, by omega, by omega, by omega⟩
        have h1 := HX.out
        have h2 := HN.out
        rw [show q + l.length + 2 = x by omega] at h2
        exact h2
      case measure => simp [intOf]; omega
    · have hqn : q < n := by rw [← HC.out.1]; exact k2
      have hcell := HC.out.2 q hqn
      rw [k1] at hcell
      have c34 : (c == 34) = false := by simpa using k3
      clear k1 k2 k3 HI'
      rcases kk with ⟨h | h, HN⟩ | ⟨h | h, h0, h1, h2⟩ | ⟨h | h, h0, HN⟩ | ⟨h, h0, HN⟩ | ⟨h, h0, HN⟩ | ⟨g1, g2, g3, g4, g5, HN⟩
      · subst h
        have HN := hideS HN
        go_wp2
        go_round
        case rel => exact ⟨q + 1, d + 1, cm, by go_num, by go_num, by go_num, HN, by omega, by omega, by omega, by omega⟩
        case measure => simp [intOf]; omega
      · subst h
        have HN := hideS HN
        go_wp2
        go_round
        case rel => exact ⟨q + 1, d + 1, cm, by go_num, by go_num, by go_num, HN, by omega, by omega, by omega, by omega⟩
        case measure => simp [intOf]; omega
      · subst h
        have H2 := hideS h2
        have H1 := hideS h1
        have hz : (d - 1 == 0) = true := by simpa using h0
        clear h0 h1 h2
        go_wp2
        go_ret2
        refine ⟨?_, rfl⟩
        show Ending.returned (.tuple #[.int .i64 ((q : Int) + 1), .int .i64 (cm + 1)]) = _
        rw [← H1.out, H2.out]
        rfl
      · subst h
        have H2 := hideS h2
        have H1 := hideS h1
        have hz : (d - 1 == 0) = true := by simpa using h0
        clear h0 h1 h2
        go_wp2
        go_ret2
        refine ⟨?_, rfl⟩
        show Ending.returned (.tuple #[.int .i64 ((q : Int) + 1), .int .i64 (cm + 1)]) = _
        rw [← H1.out, H2.out]
        rfl
      · subst h
        have HN := hideS HN
        have hz : (d - 1 == 0) = false := by simpa using h0
        clear h0
        go_wp2
        go_round
        case rel => exact ⟨q + 1, d - 1, cm, by go_num, by go_num, by go_num, HN, by omega, by omega, by omega, by omega⟩
        case measure => simp [intOf]; omega
      · subst h
        have HN := hideS HN
        have hz : (d - 1 == 0) = false := by simpa using h0
        clear h0
        go_wp2
        go_round
        case rel => exact ⟨q + 1, d - 1, cm, by go_num, by go_num, by go_num, HN, by omega, by omega, by omega, by omega⟩
        case measure => simp [intOf]; omega
      · subst h
        have HN := hideS HN
        have hz : (d == 1) = true := by simpa using h0
        clear h0
        go_wp2
        go_round
        case rel => exact ⟨q + 1, d, cm + 1, by go_num, by go_num, by go_num, HN, by omega, by omega, by omega, by omega⟩
        case measure => simp [intOf]; omega
      · subst h
        have HN := hideS HN
        have hz : (d == 1) = false := by simpa using h0
        clear h0
        go_wp2
        go_round
        case rel => exact ⟨q + 1, d, cm, by go_num, by go_num, by go_num, HN, by omega, by omega, by omega, by omega⟩
        case measure => simp [intOf]; omega
      · have HN := hideS HN
        have c1 : (c == 123) = false := by simpa using g1
        have c2 : (c == 91) = false := by simpa using g2
        have c3 : (c == 125) = false := by simpa using g3
        have c4 : (c == 93) = false := by simpa using g4
        have c5 : (c == 44) = false := by simpa using g5
        clear g1 g2 g3 g4 g5
        go_wp2
        go_round
        case rel => exact ⟨q + 1, d, cm, by go_num, by go_num, by go_num, HN, by omega, by omega, by omega, by omega⟩
        case measure => simp [intOf]; omega

theorem ZZskip {g n cap : Nat} {p : Nat} {x y : Int} {w : World} (h : Calls Try.prog 30 #[.slice (some ⟨g, 0, none⟩) n cap, .int .i64 p] w fun e w' => e = .returned (.tuple #[.int .i64 x, .int .i64 y]) ∧ w' = w) :
    Calls Try.prog 14 #[.slice (some ⟨g, 0, none⟩) n cap, .int .i64 p] w fun e w' => e = .returned (.tuple #[.int .i64 x, .int .i64 y]) ∧ w' = w := by
  have H := hideS h
  clear h
  go_enter Try.func14, Try.ntmps14
  go_wp2_with fail
  refine H.out.mono ?_
  rintro e w3 ⟨rfl, hw3⟩
  have hw4 := hw3.symm
  subst hw4
  clear hw3 H
  go_wp2
  go_ret2
  exact ⟨rfl, rfl⟩
end Go.Proofs.Qxb6601094a

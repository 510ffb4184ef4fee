/-
  The plain law: the scan stops where the generator has closed.
-/
import Derived.Test.Qxb6601094aBuildBase
import Derived.Test.Qxb6601094aSkip
namespace Go.Proofs.Qxb6601094a
set_option linter.unusedVariables false

/-! ### Tokens -/
def spcT (sp : Int) : List (Sum (List Int) Int) := (spc sp).map .inr
def strT (t : List Int) : List (Sum (List Int) Int) := [.inl (t.flatMap esc1)]

theorem flat_append (a b : List (Sum (List Int) Int)) : flat (a ++ b) = flat a ++ flat b := by
  induction a with
  | nil => rfl
  | cons x a ih => cases x <;> simp [flat, ih]

theorem flat_inr (l : List Int) : flat (l.map .inr) = l := by
  induction l with
  | nil => rfl
  | cons c l ih => simp [flat, ih]

theorem okT_append (a b : List (Sum (List Int) Int)) : okT (a ++ b) ↔ okT a ∧ okT b := by
  induction a with
  | nil => simp [okT]
  | cons x a ih => cases x <;> simp [okT, ih, and_assoc]

theorem okT_inr (l : List Int) (h : ∀ c ∈ l, c ≠ 34) : okT (l.map .inr) := by
  induction l with
  | nil => trivial
  | cons c l ih => exact ⟨h c (by simp), ih fun x hx => h x (by simp [hx])⟩

theorem spcB_mem (b1 b2 b3 b4 b5 : Bool) : ∀ c ∈ spcB b1 b2 b3 b4 b5, c = 32 ∨ c = 10 ∨ c = 9 ∨ c = 13 := by
  cases b1 <;> cases b2 <;> cases b3 <;> cases b4 <;> cases b5 <;> decide

theorem spc_mem (sp : Int) : ∀ c ∈ spc sp, c = 32 ∨ c = 10 ∨ c = 9 ∨ c = 13 := spcB_mem _ _ _ _ _

theorem spc_isSp (sp : Int) : ∀ c ∈ spc sp, isSp c = true := by
  intro c hc
  rcases spc_mem sp c hc with rfl | rfl | rfl | rfl <;> rfl

theorem flat_spcT (sp : Int) : flat (spcT sp) = spc sp := flat_inr _
theorem okT_spcT (sp : Int) : okT (spcT sp) := okT_inr _ fun c hc => by rcases spc_mem sp c hc with rfl | rfl | rfl | rfl <;> decide

/-! ### What stands in a string -/
theorem body_cons {c : Int} (h1 : c ≠ 92) (h2 : c ≠ 34) (l : List Int) : body (c :: l) = body l := by
  cases l with
  | nil => simp [body, h1, h2]
  | cons d l => simp [body, h1, h2]

theorem body_esc (x : Int) (l : List Int) : body (92 :: x :: l) = body l := by simp [body]

theorem hexd_plain {d : Int} (h0 : 0 ≤ d) (h1 : d < 16) : hexd d ≠ 92 ∧ hexd d ≠ 34 := by
  unfold hexd
  split <;> omega

theorem body_esc1 {c : Int} (h0 : 0 ≤ c) (l : List Int) : body (esc1 c ++ l) = body l := by
  unfold esc1
  split
  · exact body_esc c l
  · rename_i h
    simp only [not_or] at h
    split
    · have a := hexd_plain (d := c / 16) (by omega) (by omega)
      have b := hexd_plain (d := c % 16) (by omega) (by omega)
      show body (92 :: 117 :: 48 :: 48 :: hexd (c / 16) :: hexd (c % 16) :: l) = body l
      rw [body_esc, body_cons (by decide) (by decide), body_cons (by decide) (by decide), body_cons a.1 a.2, body_cons b.1 b.2]
    · exact body_cons h.2 h.1 l

theorem body_flat (t : List Int) (h : ∀ c ∈ t, 0 ≤ c) : body (t.flatMap esc1) = true := by
  induction t with
  | nil => rfl
  | cons c t ih =>
    rw [List.flatMap_cons, body_esc1 (h c (by simp))]
    exact ih fun x hx => h x (by simp [hx])

theorem sb_nonneg (s : ByteArray) : ∀ c ∈ sb s, 0 ≤ c := by
  intro c hc
  obtain ⟨b, _, rfl⟩ := List.mem_map.1 hc
  omega

theorem flat_strT (t : List Int) : flat (strT t) = strB t := by simp [strT, flat, strB]
theorem okT_strT (t : List Int) (h : ∀ c ∈ t, 0 ≤ c) : okT (strT t) := ⟨body_flat t h, trivial⟩

/-! ### What the scan passes over -/
def Neutral (lo : Int) (ts : List (Sum (List Int) Int)) : Prop := ∀ rest d cm m, lo ≤ d → Stops rest d cm m → Stops (ts ++ rest) d cm m

theorem Neutral.nil (lo : Int) : Neutral lo [] := fun _ _ _ _ _ h => h
theorem Neutral.app {lo : Int} {a b : List (Sum (List Int) Int)} (ha : Neutral lo a) (hb : Neutral lo b) : Neutral lo (a ++ b) := fun rest d cm m hd h => by
  rw [List.append_assoc]
  exact ha _ d cm m hd (hb rest d cm m hd h)
theorem Neutral.mono {lo hi : Int} {a : List (Sum (List Int) Int)} (ha : Neutral lo a) (h : lo ≤ hi) : Neutral hi a := fun rest d cm m hd => ha rest d cm m (by omega)

theorem Neutral.str (lo : Int) (t : List Int) : Neutral lo (strT t) := fun _ _ _ _ _ h => h

theorem Neutral.byte (lo : Int) {c : Int} (h1 : c ≠ 123) (h2 : c ≠ 91) (h3 : c ≠ 125) (h4 : c ≠ 93) (h5 : c ≠ 44) : Neutral lo [.inr c] := fun rest d cm m hd h => by
  show Stops (.inr c :: rest) d cm m
  simp only [Stops, h1, h2, h3, h4, h5, or_self, if_false]
  exact h

theorem Neutral.bytes (lo : Int) (l : List Int) (h : ∀ c ∈ l, c ≠ 123 ∧ c ≠ 91 ∧ c ≠ 125 ∧ c ≠ 93 ∧ c ≠ 44) : Neutral lo (l.map .inr) := by
  induction l with
  | nil => exact Neutral.nil lo
  | cons c l ih =>
    obtain ⟨h1, h2, h3, h4, h5⟩ := h c (by simp)
    exact (Neutral.byte lo h1 h2 h3 h4 h5).app (ih fun x hx => h x (by simp [hx]))

theorem Neutral.spc (lo : Int) (sp : Int) : Neutral lo (spcT sp) := Neutral.bytes lo _ fun c hc => by rcases spc_mem sp c hc with rfl | rfl | rfl | rfl <;> decide

/-- A comma below depth 1 counts for nothing. -/
theorem Neutral.comma : Neutral 2 [.inr 44] := fun rest d cm m hd h => by
  show Stops (.inr 44 :: rest) d cm m
  have : ¬ d = 1 := by omega
  simp [Stops, this]
  exact h

theorem Stops.open {c : Int} (hc : c = 123 ∨ c = 91) {rest : List (Sum (List Int) Int)} {d cm m : Int} (h : Stops rest (d + 1) cm m) : Stops (.inr c :: rest) d cm m := by
  simp only [Stops, hc, if_true]
  exact h

theorem Stops.close {c : Int} (hc : c = 125 ∨ c = 93) {rest : List (Sum (List Int) Int)} {d cm m : Int} (hd : 1 ≤ d) (h : Stops rest d cm m) : Stops (.inr c :: rest) (d + 1) cm m := by
  have h1 : ¬ (c = 123 ∨ c = 91) := by rcases hc with rfl | rfl <;> decide
  have h2 : ¬ (d + 1 - 1 = 0) := by omega
  simp only [Stops, h1, hc, h2, if_true, if_false]
  rw [show d + 1 - 1 = d by omega]
  exact h

theorem Stops.last {c : Int} (hc : c = 125 ∨ c = 93) {cm m : Int} (h : m = cm + 1) : Stops [.inr c] 1 cm m := by
  have h1 : ¬ (c = 123 ∨ c = 91) := by rcases hc with rfl | rfl <;> decide
  simp [Stops, h1, hc, h]

theorem Stops.comma1 {rest : List (Sum (List Int) Int)} {cm m : Int} (h : Stops rest 1 (cm + 1) m) : Stops (.inr 44 :: rest) 1 cm m := by
  simp [Stops]
  exact h

/-- A container within is passed over. -/
theorem Neutral.wrap {o c : Int} (ho : o = 123 ∨ o = 91) (hc : c = 125 ∨ c = 93) {X : List (Sum (List Int) Int)} (hX : Neutral 2 X) : Neutral 1 ([.inr o] ++ X ++ [.inr c]) := fun rest d cm m hd h => by
  have e : [Sum.inr o] ++ X ++ [.inr c] ++ rest = .inr o :: (X ++ (.inr c :: rest)) := by simp
  rw [e]
  exact Stops.open ho (hX _ _ _ _ (by omega) (Stops.close hc hd h))
end Go.Proofs.Qxb6601094a

/-
  The plain law, its second half: the generator's text, token by token.
-/
import Derived.Test.Qxb6601094aLaw
namespace Go.Proofs.Qxb6601094a
set_option linter.unusedVariables false

def lit1T : List (Sum (List Int) Int) := [.inr 91] ++ ([.inr 49] ++ [.inr 44] ++ ([.inr 123] ++ ([.inl [120]] ++ [.inr 58] ++ ([.inr 91] ++ [] ++ [.inr 93])) ++ [.inr 125]) ++ [.inr 44] ++ [.inl [93, 44, 92, 92]]) ++ [.inr 93]
def lit2T : List (Sum (List Int) Int) := [.inl [121]] ++ [.inr 58]

theorem flat_lit1 : flat lit1T = lit1 := rfl
theorem flat_lit2 : flat lit2T = lit2 := rfl
theorem okT_lit1 : okT lit1T := by simp [okT, lit1T, body]
theorem okT_lit2 : okT lit2T := by simp [okT, lit2T, body]

theorem Neutral.inl (lo : Int) (b : List Int) : Neutral lo [.inl b] := fun _ _ _ _ _ h => h

theorem Neutral.lit1 : Neutral 1 lit1T :=
  Neutral.wrap (.inr rfl) (.inr rfl) (((((Neutral.byte 2 (by decide) (by decide) (by decide) (by decide) (by decide)).app Neutral.comma).app
    ((Neutral.wrap (.inl rfl) (.inl rfl) (((Neutral.inl 2 _).app (Neutral.byte 2 (by decide) (by decide) (by decide) (by decide) (by decide))).app
      ((Neutral.wrap (.inr rfl) (.inr rfl) (Neutral.nil 2)).mono (by decide)))).mono (by decide))).app Neutral.comma).app (Neutral.inl 2 _))

theorem Neutral.lit2 (lo : Int) : Neutral lo lit2T := (Neutral.inl lo _).app (Neutral.byte lo (by decide) (by decide) (by decide) (by decide) (by decide))

/-- A value's tokens. -/
def valT (k : Int) (t : List Int) (sp : Int) : List (Sum (List Int) Int) :=
  if k % 6 = 0 then strT t
  else if k % 6 = 1 then [.inr 91] ++ (spcT sp ++ strT t ++ spcT sp ++ [.inr 44] ++ spcT sp ++ strT t ++ spcT sp) ++ [.inr 93]
  else if k % 6 = 2 then [.inr 123] ++ (spcT sp ++ strT t ++ spcT sp ++ [.inr 58] ++ spcT sp ++ lit1T ++ spcT sp ++ [.inr 44] ++ spcT sp ++ lit2T ++ spcT sp ++ strT t ++ spcT sp) ++ [.inr 125]
  else if k % 6 = 3 then (if k / 6 % 2 = 0 then [.inr 91] ++ spcT sp ++ [.inr 93] else [.inr 123] ++ spcT sp ++ [.inr 125])
  else if k % 6 = 4 then lit3.map .inr else lit4.map .inr

theorem flat_valT (k : Int) (t : List Int) (sp : Int) : flat (valT k t sp) = valB k t sp := by
  unfold valT valB
  repeat' split
  all_goals simp [flat_append, flat_spcT, flat_strT, flat_lit1, flat_lit2, flat_inr, flat]

theorem okT_valT (k : Int) (t : List Int) (sp : Int) (h : ∀ c ∈ t, 0 ≤ c) : okT (valT k t sp) := by
  have h1 := okT_spcT sp
  have h2 := okT_strT t h
  unfold valT
  repeat' split
  all_goals first
    | exact h2
    | exact okT_inr _ (by decide)
    | simp [okT_append, h1, h2, okT_lit1, okT_lit2, okT]

theorem Neutral.byte58 (lo : Int) : Neutral lo [.inr 58] := Neutral.byte lo (by decide) (by decide) (by decide) (by decide) (by decide)

/-- The two great values, their parts left open. -/
theorem neutral_arr {S R : List (Sum (List Int) Int)} (s2 : Neutral 2 S) (t2 : Neutral 2 R) : Neutral 1 ([.inr 91] ++ (S ++ R ++ S ++ [.inr 44] ++ S ++ R ++ S) ++ [.inr 93]) :=
  Neutral.wrap (.inr rfl) (.inr rfl) ((((((s2.app t2).app s2).app Neutral.comma).app s2).app t2).app s2)

theorem neutral_obj {S R L M : List (Sum (List Int) Int)} (s2 : Neutral 2 S) (t2 : Neutral 2 R) (l2 : Neutral 2 L) (m2 : Neutral 2 M) :
    Neutral 1 ([.inr 123] ++ (S ++ R ++ S ++ [.inr 58] ++ S ++ L ++ S ++ [.inr 44] ++ S ++ M ++ S ++ R ++ S) ++ [.inr 125]) :=
  Neutral.wrap (.inl rfl) (.inl rfl) ((((((((((((s2.app t2).app s2).app (Neutral.byte58 2)).app s2).app l2).app s2).app Neutral.comma).app s2).app m2).app s2).app t2).app s2)

theorem Neutral.val (k : Int) (t : List Int) (sp : Int) : Neutral 1 (valT k t sp) := by
  have s2 := Neutral.spc 2 sp
  have t2 := Neutral.str 2 t
  have t1 := Neutral.str 1 t
  have l2 : Neutral 2 lit1T := Neutral.lit1.mono (by decide)
  have m2 := Neutral.lit2 2
  have n3 : Neutral 1 (lit3.map .inr) := Neutral.bytes 1 _ (by decide)
  have n4 : Neutral 1 (lit4.map .inr) := Neutral.bytes 1 _ (by decide)
  unfold valT
  generalize spcT sp = S at *
  generalize strT t = R at *
  generalize lit1T = L at *
  generalize lit2T = M at *
  generalize (lit3.map .inr : List (Sum (List Int) Int)) = N3 at *
  generalize (lit4.map .inr : List (Sum (List Int) Int)) = N4 at *
  split
  · exact t1
  split
  · exact neutral_arr s2 t2
  split
  · exact neutral_obj s2 t2 l2 m2
  split
  · split
    · exact Neutral.wrap (.inr rfl) (.inr rfl) s2
    · exact Neutral.wrap (.inl rfl) (.inl rfl) s2
  split
  · exact n3
  · exact n4

theorem stops_arr {S R : List (Sum (List Int) Int)} (s1 : Neutral 1 S) (t1 : Neutral 1 R) : Stops ([.inr 91] ++ (S ++ R ++ S ++ [.inr 44] ++ S ++ R ++ S) ++ [.inr 93]) 0 0 2 := by
  have e : [Sum.inr 91] ++ (S ++ R ++ S ++ [.inr 44] ++ S ++ R ++ S) ++ [.inr 93] = .inr 91 :: ((S ++ R ++ S) ++ (.inr 44 :: ((S ++ R ++ S) ++ [.inr 93]))) := by simp
  rw [e]
  have x := (s1.app t1).app s1
  exact Stops.open (.inr rfl) (x _ _ _ _ (by decide) (Stops.comma1 (x _ _ _ _ (by decide) (Stops.last (.inr rfl) (by decide)))))

theorem stops_obj {S R L M : List (Sum (List Int) Int)} (s1 : Neutral 1 S) (t1 : Neutral 1 R) (l1 : Neutral 1 L) (m1 : Neutral 1 M) :
    Stops ([.inr 123] ++ (S ++ R ++ S ++ [.inr 58] ++ S ++ L ++ S ++ [.inr 44] ++ S ++ M ++ S ++ R ++ S) ++ [.inr 125]) 0 0 2 := by
  have e : [Sum.inr 123] ++ (S ++ R ++ S ++ [.inr 58] ++ S ++ L ++ S ++ [.inr 44] ++ S ++ M ++ S ++ R ++ S) ++ [.inr 125] = .inr 123 :: ((S ++ R ++ S ++ [.inr 58] ++ S ++ L ++ S) ++ (.inr 44 :: ((S ++ M ++ S ++ R ++ S) ++ [.inr 125]))) := by simp
  rw [e]
  have x := (((((s1.app t1).app s1).app (Neutral.byte58 1)).app s1).app l1).app s1
  have y := (((s1.app m1).app s1).app t1).app s1
  exact Stops.open (.inl rfl) (x _ _ _ _ (by decide) (Stops.comma1 (y _ _ _ _ (by decide) (Stops.last (.inl rfl) (by decide)))))

/-- A container among the values: the scan stops at its end, with its own count. -/
theorem stops_val {k : Int} (t : List Int) (sp : Int) (h : k % 6 = 1 ∨ k % 6 = 2) : Stops (valT k t sp) 0 0 2 := by
  have s1 := Neutral.spc 1 sp
  have t1 := Neutral.str 1 t
  have l1 := Neutral.lit1
  have m1 := Neutral.lit2 1
  unfold valT
  generalize spcT sp = S at *
  generalize strT t = R at *
  generalize lit1T = L at *
  generalize lit2T = M at *
  rcases h with h | h
  · rw [if_neg (by omega), if_pos h]
    exact stops_arr s1 t1
  · rw [if_neg (by omega), if_neg (by omega), if_pos h]
    exact stops_obj s1 t1 l1 m1

section
variable (pre : List Int) (K : Nat → Int) (T : Nat → List Int) (obj : Bool) (sp : Int)

def preT (i : Nat) : List (Sum (List Int) Int) := (if 0 < i then [.inr 44] ++ spcT sp else []) ++ (if obj then strT (T i) ++ spcT sp ++ [.inr 58] ++ spcT sp else [])
def memT (i : Nat) : List (Sum (List Int) Int) := preT T obj sp i ++ valT (K i) (T i) sp ++ spcT sp
def textT : Nat → List (Sum (List Int) Int)
  | 0 => [.inr (opening obj)] ++ spcT sp
  | k + 1 => textT k ++ memT K T obj sp k

theorem flat_preT (i : Nat) : flat (preT T obj sp i) = memPre T obj sp i := by
  unfold preT memPre
  cases obj <;> by_cases h : 0 < i <;> simp [flat_append, flat_spcT, flat_strT, flat, h]

theorem flat_textT (k : Nat) : pre ++ flat (textT K T obj sp k) = text pre K T obj sp k := by
  induction k with
  | zero => simp [textT, text, flat_spcT, flat]
  | succ k ih => rw [textT, text, flat_append, ← List.append_assoc, ih, memT, mem, flat_append, flat_append, flat_preT, flat_valT, flat_spcT]

theorem okT_textT (hT : ∀ i, ∀ c ∈ T i, 0 ≤ c) (k : Nat) : okT (textT K T obj sp k) := by
  have h1 := okT_spcT sp
  have ho : opening obj ≠ 34 := by cases obj <;> decide
  induction k with
  | zero => simp [textT, h1, okT, ho]
  | succ k ih =>
    have h2 := okT_strT (T k) (hT k)
    have h3 := okT_valT (K k) (T k) sp (hT k)
    rw [textT, okT_append, memT, okT_append, okT_append]
    refine ⟨ih, ⟨?_, h3⟩, h1⟩
    unfold preT
    cases obj <;> by_cases h : 0 < k <;> simp [okT_append, h1, h2, okT, h]

theorem neutral_key (i : Nat) : Neutral 1 (if obj then strT (T i) ++ spcT sp ++ [.inr 58] ++ spcT sp else []) := by
  cases obj
  · exact Neutral.nil 1
  · exact (((Neutral.str 1 _).app (Neutral.spc 1 sp)).app (Neutral.byte58 1)).app (Neutral.spc 1 sp)

theorem stops_text (k : Nat) (rest : List (Sum (List Int) Int)) (m : Int) (h : Stops rest 1 (k : Int) m) : Stops (textT K T obj sp (k + 1) ++ rest) 0 0 m := by
  have ho : opening obj = 123 ∨ opening obj = 91 := by cases obj <;> decide
  have s1 := Neutral.spc 1 sp
  induction k generalizing rest with
  | zero =>
    have v1 := Neutral.val (K 0) (T 0) sp
    have y1 := neutral_key T obj sp 0
    have e : textT K T obj sp 1 ++ rest = .inr (opening obj) :: (spcT sp ++ ((if obj then strT (T 0) ++ spcT sp ++ [.inr 58] ++ spcT sp else []) ++ (valT (K 0) (T 0) sp ++ (spcT sp ++ rest)))) := by simp [textT, memT, preT]
    rw [e]
    clear e
    generalize (if obj then strT (T 0) ++ spcT sp ++ [.inr 58] ++ spcT sp else []) = Y at *
    generalize valT (K 0) (T 0) sp = V at *
    generalize spcT sp = S at *
    exact Stops.open ho (s1 _ _ _ _ (by decide) (y1 _ _ _ _ (by decide) (v1 _ _ _ _ (by decide) (s1 _ _ _ _ (by decide) h))))
  | succ k ih =>
    have v1 := Neutral.val (K (k + 1)) (T (k + 1)) sp
    have y1 := neutral_key T obj sp (k + 1)
    have e : textT K T obj sp (k + 1 + 1) ++ rest = textT K T obj sp (k + 1) ++ (.inr 44 :: (spcT sp ++ ((if obj then strT (T (k + 1)) ++ spcT sp ++ [.inr 58] ++ spcT sp else []) ++ (valT (K (k + 1)) (T (k + 1)) sp ++ (spcT sp ++ rest))))) := by
      rw [textT]
      simp [memT, preT]
    rw [e]
    clear e
    refine ih _ (Stops.comma1 ?_)
    clear ih
    generalize (if obj then strT (T (k + 1)) ++ spcT sp ++ [.inr 58] ++ spcT sp else []) = Y at *
    generalize valT (K (k + 1)) (T (k + 1)) sp = V at *
    generalize spcT sp = S at *
    exact s1 _ _ _ _ (by decide) (y1 _ _ _ _ (by decide) (v1 _ _ _ _ (by decide) (s1 _ _ _ _ (by decide) h)))

/-- The whole container. -/
theorem stops_all (k : Nat) : Stops (textT K T obj sp (k + 1) ++ [.inr (closing obj)]) 0 0 ((k + 1 : Nat) : Int) := by
  have hc : closing obj = 125 ∨ closing obj = 93 := by cases obj <;> decide
  exact stops_text K T obj sp k _ _ (Stops.last hc (by omega))
end
end Go.Proofs.Qxb6601094a

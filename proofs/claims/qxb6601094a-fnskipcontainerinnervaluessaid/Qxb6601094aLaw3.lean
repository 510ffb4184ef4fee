/-
  The plain law, its end: where the container and its members lie in the text.
-/
import Derived.Test.Qxb6601094aLaw2
namespace Go.Proofs.Qxb6601094a
set_option linter.unusedVariables false

theorem at_spaces {Z A S R : List Int} {o c : Int} (h : Z = A ++ (o :: (S ++ (c :: R)))) (hS : ∀ x ∈ S, isSp x = true) :
    (∀ j, j < S.length → isSp (Z.getD (A.length + 1 + j) 0) = true) ∧ Z.getD (A.length + 1 + S.length) 0 = c ∧ A.length + 1 + S.length < Z.length := by
  subst h
  refine ⟨fun j hj => ?_, ?_, ?_⟩
  · rw [List.getD_eq_getElem?_getD, List.getElem?_append_right (by omega), show A.length + 1 + j - A.length = j + 1 by omega, List.getElem?_cons_succ, List.getElem?_append_left hj, List.getElem?_eq_getElem hj, Option.getD_some]
    exact hS _ (List.getElem_mem _)
  · rw [List.getD_eq_getElem?_getD, List.getElem?_append_right (by omega), show A.length + 1 + S.length - A.length = S.length + 1 by omega, List.getElem?_cons_succ, List.getElem?_append_right (by omega), Nat.sub_self]
    rfl
  · simp only [List.length_append, List.length_cons]; omega

/-- A byte that begins a value or a key. -/
def Begins (c : Int) : Prop := isSp c = false ∧ c ≠ 93 ∧ c ≠ 125

theorem valB_begins (k : Int) (t : List Int) (sp : Int) : ∃ c R, valB k t sp = c :: R ∧ Begins c := by
  unfold valB
  split
  · exact ⟨34, _, rfl, by decide, by decide, by decide⟩
  split
  · exact ⟨91, _, rfl, by decide, by decide, by decide⟩
  split
  · exact ⟨123, _, rfl, by decide, by decide, by decide⟩
  split
  · split
    · exact ⟨91, _, rfl, by decide, by decide, by decide⟩
    · exact ⟨123, _, rfl, by decide, by decide, by decide⟩
  split
  · exact ⟨45, _, rfl, by decide, by decide, by decide⟩
  · exact ⟨110, _, rfl, by decide, by decide, by decide⟩

section
variable (pre : List Int) (K : Nat → Int) (T : Nat → List Int) (obj : Bool) (sp : Int)

theorem mem0_begins : ∃ c R, mem K T obj sp 0 = c :: R ∧ Begins c := by
  obtain ⟨c, R, h, hb⟩ := valB_begins (K 0) (T 0) sp
  unfold mem memPre
  cases obj
  · exact ⟨c, R ++ spc sp, by simp [h], hb⟩
  · exact ⟨34, _, rfl, by decide, by decide, by decide⟩

theorem text_split (k : Nat) : ∃ R, text pre K T obj sp k = pre ++ (opening obj :: (spc sp ++ R)) ∧ (k = 0 → R = []) ∧ (0 < k → ∃ c R', R = c :: R' ∧ Begins c) := by
  induction k with
  | zero => exact ⟨[], by simp [text], fun _ => rfl, fun h => by omega⟩
  | succ k ih =>
    obtain ⟨R, h1, h2, h3⟩ := ih
    refine ⟨R ++ mem K T obj sp k, by rw [text, h1]; simp, fun h => by omega, fun _ => ?_⟩
    by_cases h0 : k = 0
    · subst h0
      rw [h2 rfl]
      exact mem0_begins K T obj sp
    · obtain ⟨c, R', rfl, hb⟩ := h3 (by omega)
      exact ⟨c, R' ++ mem K T obj sp k, by simp, hb⟩

/-- The text behind any member begins with the text up to it. -/
theorem text_mono {i k : Nat} (h : i ≤ k) : ∃ R, text pre K T obj sp k = text pre K T obj sp i ++ R := by
  induction k with
  | zero => obtain rfl : i = 0 := by omega
            exact ⟨[], by simp⟩
  | succ k ih =>
    by_cases hk : i = k + 1
    · subst hk; exact ⟨[], by simp⟩
    · obtain ⟨R, hR⟩ := ih (by omega)
      exact ⟨R ++ mem K T obj sp k, by rw [text, hR, List.append_assoc]⟩

theorem value_at {i k : Nat} (h : i < k) (X : List Int) : ∃ R, text pre K T obj sp k ++ X = (text pre K T obj sp i ++ memPre T obj sp i) ++ (valB (K i) (T i) sp ++ R) := by
  obtain ⟨R, hR⟩ := text_mono pre K T obj sp (show i + 1 ≤ k from h)
  refine ⟨spc sp ++ R ++ X, ?_⟩
  rw [hR, text, mem]
  simp

/-- OUTER, with members: what the scan wants. -/
theorem outer_inv (hT : ∀ i, ∀ c ∈ T i, 0 ≤ c) (post : List Int) (k : Nat) :
    Inv (text pre K T obj sp (k + 1) ++ [closing obj] ++ post) post (text pre K T obj sp (k + 1) ++ [closing obj]).length ((k + 1 : Nat) : Int) pre.length 0 0 := by
  refine ⟨textT K T obj sp (k + 1) ++ [.inr (closing obj)], ?_, ?_, stops_all K T obj sp k, ?_⟩
  · rw [← flat_textT, flat_append]
    simp [flat]
  · rw [okT_append]
    refine ⟨okT_textT K T obj sp hT _, ?_, trivial⟩
    cases obj <;> decide
  · rw [← flat_textT, flat_append]
    simp only [List.length_append, flat, List.length_cons, List.length_nil]
    omega

theorem outer_some (post : List Int) (k : Nat) : ∃ c, Begins c ∧ (∀ j, j < (spc sp).length → isSp ((text pre K T obj sp (k + 1) ++ [closing obj] ++ post).getD (pre.length + 1 + j) 0) = true) ∧
    (text pre K T obj sp (k + 1) ++ [closing obj] ++ post).getD (pre.length + 1 + (spc sp).length) 0 = c ∧ pre.length + 1 + (spc sp).length < (text pre K T obj sp (k + 1) ++ [closing obj] ++ post).length := by
  obtain ⟨R, h1, _, h3⟩ := text_split pre K T obj sp (k + 1)
  obtain ⟨c, R', rfl, hb⟩ := h3 (by omega)
  have h := at_spaces (Z := text pre K T obj sp (k + 1) ++ [closing obj] ++ post) (A := pre) (S := spc sp) (o := opening obj) (c := c) (R := R' ++ [closing obj] ++ post) (by rw [h1]; simp) (spc_isSp sp)
  exact ⟨c, hb, h⟩

theorem outer_none (post : List Int) : (∀ j, j < (spc sp).length → isSp ((text pre K T obj sp 0 ++ [closing obj] ++ post).getD (pre.length + 1 + j) 0) = true) ∧
    (text pre K T obj sp 0 ++ [closing obj] ++ post).getD (pre.length + 1 + (spc sp).length) 0 = closing obj ∧ pre.length + 1 + (spc sp).length < (text pre K T obj sp 0 ++ [closing obj] ++ post).length :=
  at_spaces (A := pre) (S := spc sp) (o := opening obj) (c := closing obj) (R := post) (by simp [text]) (spc_isSp sp)
end

/-- INNER, an array or an object with members. -/
theorem inner_inv {Z A R t : List Int} {k sp : Int} (hk : k % 6 = 1 ∨ k % 6 = 2) (ht : ∀ c ∈ t, 0 ≤ c) (h : Z = A ++ (valB k t sp ++ R)) : Inv Z R (A ++ valB k t sp).length 2 A.length 0 0 := by
  refine ⟨valT k t sp, ?_, okT_valT k t sp ht, stops_val t sp hk, ?_⟩
  · rw [h, flat_valT]; simp
  · rw [flat_valT, List.length_append]

theorem inner_some {Z A R t : List Int} {k sp : Int} (hk : k % 6 = 1 ∨ k % 6 = 2) (h : Z = A ++ (valB k t sp ++ R)) :
    (∀ j, j < (spc sp).length → isSp (Z.getD (A.length + 1 + j) 0) = true) ∧ Z.getD (A.length + 1 + (spc sp).length) 0 = 34 ∧ A.length + 1 + (spc sp).length < Z.length := by
  rcases hk with hk | hk
  · refine at_spaces (o := 91) (S := spc sp) (c := 34) (R := t.flatMap esc1 ++ [34] ++ spc sp ++ [44] ++ spc sp ++ strB t ++ spc sp ++ [93] ++ R) ?_ (spc_isSp sp)
    rw [h]; simp [valB, hk, strB]
  · refine at_spaces (o := 123) (S := spc sp) (c := 34) (R := t.flatMap esc1 ++ [34] ++ spc sp ++ [58] ++ spc sp ++ lit1 ++ spc sp ++ [44] ++ spc sp ++ lit2 ++ spc sp ++ strB t ++ spc sp ++ [125] ++ R) ?_ (spc_isSp sp)
    rw [h]; simp [valB, hk, strB]

/-- INNER, an empty one. -/
theorem inner_none {Z A R t : List Int} {k sp : Int} (hk : k % 6 = 3) (h : Z = A ++ (valB k t sp ++ R)) : ∃ c, (c = 93 ∨ c = 125) ∧
    (∀ j, j < (spc sp).length → isSp (Z.getD (A.length + 1 + j) 0) = true) ∧ Z.getD (A.length + 1 + (spc sp).length) 0 = c ∧ A.length + 1 + (spc sp).length < Z.length ∧ A.length + 1 + (spc sp).length + 1 = (A ++ valB k t sp).length := by
  by_cases q : k / 6 % 2 = 0
  · obtain ⟨h1, h2, h3⟩ := at_spaces (Z := Z) (A := A) (o := 91) (S := spc sp) (c := 93) (R := R) (by rw [h]; simp [valB, hk, q]) (spc_isSp sp)
    exact ⟨93, .inl rfl, h1, h2, h3, by simp [valB, hk, q]; omega⟩
  · obtain ⟨h1, h2, h3⟩ := at_spaces (Z := Z) (A := A) (o := 123) (S := spc sp) (c := 125) (R := R) (by rw [h]; simp [valB, hk, q]) (spc_isSp sp)
    exact ⟨125, .inr rfl, h1, h2, h3, by simp [valB, hk, q]; omega⟩
end Go.Proofs.Qxb6601094a

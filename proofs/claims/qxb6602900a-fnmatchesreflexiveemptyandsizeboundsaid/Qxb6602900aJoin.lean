/-
  joinPath (17), ZZjoinPath (14); their plain law.
-/
import Derived.Test.Qxb6602900aRows
import Derived.WalkKit
import Derived.WalkSpells
import Derived.WalkLawsBesides
namespace Go.Proofs.Qxb6602900a
open Go.RowKit
set_option linter.unusedVariables false

theorem hide {p : Prop} (h : p) : Hid p := h

/-- The path of a member, as lists of bytes. -/
def jl (a b : List UInt8) : List UInt8 := if a = [] ∨ b = [] then a ++ b else a ++ 46 :: b

theorem jl_nil_left (a : List UInt8) : jl [] a = a := by simp [jl]
theorem jl_nil_right (a : List UInt8) : jl a [] = a := by simp [jl]
theorem jl_nil_iff (a b : List UInt8) : jl a b = [] ↔ a = [] ∧ b = [] := by
  unfold jl
  split
  · simp
  · rename_i h
    simp only [not_or] at h
    simp [h]

theorem jl_assoc (a b c : List UInt8) : jl (jl a b) c = jl a (jl b c) := by
  by_cases ha : a = []
  · subst ha; rw [jl_nil_left, jl_nil_left]
  by_cases hb : b = []
  · subst hb; rw [jl_nil_left, jl_nil_right]
  by_cases hc : c = []
  · subst hc; rw [jl_nil_right, jl_nil_right]
  have h1 : jl a b ≠ [] := fun h => ha ((jl_nil_iff a b).1 h).1
  have h2 : jl b c ≠ [] := fun h => hb ((jl_nil_iff b c).1 h).1
  have e1 : jl (jl a b) c = jl a b ++ 46 :: c := by rw [jl, if_neg (by simp [h1, hc])]
  have e2 : jl a (jl b c) = a ++ 46 :: jl b c := by rw [jl, if_neg (by simp [h2, ha])]
  rw [e1, e2]
  simp [jl, ha, hb, hc]

/-- The path of a member. -/
def jp (p n : ByteArray) : ByteArray := ⟨(jl p.data.toList n.data.toList).toArray⟩

theorem ba_ext {a b : ByteArray} (h : a.data.toList = b.data.toList) : a = b := by
  cases a; cases b
  simp only at h
  congr 1
  exact Array.ext' h

theorem jp_data (p n : ByteArray) : (jp p n).data.toList = jl p.data.toList n.data.toList := rfl

theorem jp_nil_left (a : ByteArray) : jp ⟨#[]⟩ a = a := ba_ext (by rw [jp_data]; exact jl_nil_left _)
theorem jp_nil_right (a : ByteArray) : jp a ⟨#[]⟩ = a := ba_ext (by rw [jp_data]; exact jl_nil_right _)
theorem jp_assoc (a b c : ByteArray) : jp (jp a b) c = jp a (jp b c) := ba_ext (by rw [jp_data, jp_data, jp_data, jp_data]; exact jl_assoc _ _ _)

theorem jp_size (p n : ByteArray) : (jp p n).size ≤ p.size + n.size + 1 := by
  show (jl p.data.toList n.data.toList).length ≤ p.data.toList.length + n.data.toList.length + 1
  unfold jl
  split
  · simp
  · simp; omega

theorem data_app (a b : ByteArray) : (a ++ b).data.toList = a.data.toList ++ b.data.toList := by
  rw [ByteArray.data_append]
  simp

theorem join_any (p n : ByteArray) (w : World) (hp : p.size ≤ 4194304) (hn : n.size ≤ 4194304) :
    Calls Try.prog 17 #[.string p, .string n] w fun e w' => e = .returned (.string (jp p n)) ∧ w' = w := by
  by_cases c1 : p.toList = []
  · have e : jp p n = p ++ n := ba_ext (by rw [jp_data, data_app]; rw [ByteArray.toList_eq] at c1; simp [jl, c1])
    rw [e]
    clear e
    go_enter Try.func17, Try.ntmps17
    go_wp2
    go_ret
    exact ⟨rfl, rfl⟩
  · by_cases c2 : n.toList = []
    · have e : jp p n = p ++ n := ba_ext (by rw [jp_data, data_app]; rw [ByteArray.toList_eq] at c2; simp [jl, c2])
      rw [e]
      clear e
      have d1 : p.toList.isEmpty = false := by simpa using c1
      have d2 : n.toList.isEmpty = true := by simpa using c2
      go_enter Try.func17, Try.ntmps17
      go_wp2
      go_ret
      exact ⟨rfl, rfl⟩
    · have e : jp p n = p ++ ⟨#[46]⟩ ++ n := ba_ext (by rw [jp_data, data_app, data_app]; rw [ByteArray.toList_eq] at c1 c2; simp [jl, c1, c2])
      rw [e]
      clear e
      have d1 : p.toList.isEmpty = false := by simpa using c1
      have d2 : n.toList.isEmpty = false := by simpa using c2
      go_enter Try.func17, Try.ntmps17
      go_wp2
      go_ret
      exact ⟨rfl, rfl⟩

theorem ZZjoin_any (p n : ByteArray) (w : World) (hp : p.size ≤ 4194304) (hn : n.size ≤ 4194304) :
    Calls Try.prog 14 #[.string p, .string n] w fun e w' => e = .returned (.string (jp p n)) ∧ w' = w := by
  go_enter Try.func14, Try.ntmps14
  go_wp2_with fail
  refine (join_any p n _ hp hn).mono ?_
  rintro e w3 ⟨rfl, hw⟩
  have hw' := hw.symm
  subst hw'
  clear hw
  go_wp2
  go_ret
  exact ⟨rfl, rfl⟩
end Go.Proofs.Qxb6602900a

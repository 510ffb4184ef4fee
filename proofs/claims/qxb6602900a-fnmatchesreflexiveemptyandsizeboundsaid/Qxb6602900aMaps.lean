/-
  Maps of strings that the call makes: zzBuild (10).
-/
import Derived.Test.Qxb6602900aStrs
import Derived.Maps.RangeWalk
import Derived.Maps.OwnSet
import Derived.Maps.StringElems
import Derived.Maps.OwnOps
import Derived.StringKeys
namespace Go.Proofs.Qxb6602900a
open Go.RowKit Go.Maps
set_option linter.unusedVariables false

theorem law : Keyed Try.prog 9 := string_keyed Try.underlying9
theorem zeroS (w : World) : (zeroValue 9).run Try.prog w = .ok (.string ByteArray.empty) w := by kernel_rfl

theorem keyS {s : ByteArray} (hs : s.size ≤ maxLen) : keyOf Try.prog 9 (.string s) = some (.string s.data.toList) := WideMaps.keyOf_string_mk Try.underlying9 hs

/-- The block b is a map of strings that reads as D. -/
def Om (w : World) (b : Nat) (D : DataW Unit) : Prop := ∃ n, n ≤ 4096 ∧ w.ownsMap Try.prog 9 (plainElem Try.prog 9) b n D

/-- A map value, nil or not, that reads as D. -/
def MapIs (w : World) (v : Value) (D : DataW Unit) : Prop := (v = .map none ∧ D = .map []) ∨ ∃ b, v = .map (some b) ∧ Om w b D

theorem Om.lt {w : World} {b : Nat} {D : DataW Unit} (h : Om w b D) : b < w.heap.size := by
  obtain ⟨n, _, h⟩ := h
  exact h.lt

theorem Om.later {w w' : World} {b : Nat} {D : DataW Unit} (h : Om w b D) (hb : Below w.heap.size w w') : Om w' b D := by
  have hlt := h.lt
  obtain ⟨n, hn, es, clock, h1, h2⟩ := h
  exact ⟨n, hn, es, clock, (hb.block b hlt).trans h1, h2⟩

theorem MapIs.later {w w' : World} {v : Value} {D : DataW Unit} (h : MapIs w v D) (hb : Below w.heap.size w w') : MapIs w' v D := by
  rcases h with h | ⟨b, e, h⟩
  · exact .inl h
  · exact .inr ⟨b, e, h.later hb⟩

def Built (w : World) (e : Ending) (w' : World) : Prop := ∃ v D, e = .returned v ∧ MapIs w' v D ∧ Below w.heap.size w w'

set_option maxHeartbeats 400000 in
theorem build_any (a0 a1 : Option Addr) (n c0 c1 : Nat) (X0 X1 : Nat → ByteArray) (w : World) (t0 : Texts w a0 n X0) (t1 : Texts w a1 n X1) (hn : n ≤ 4096) (m0 : ∀ r, r < n → (X0 r).size ≤ maxLen) (m1 : ∀ r, r < n → (X1 r).size ≤ maxLen) :
    Calls Try.prog 10 #[.slice a0 n c0, .slice a1 n c1] w (Built w) := by
  have q22 : ∀ (w : World) (a : Option Addr) (n c n' c' : Nat), (binOp .eql 22 (.slice a n c) (.slice none n' c')).run Try.prog w = .ok (.bool a.isNone) w := fun w a n c n' c' => Lib.run_eql_slice_nil w _ _ a n c n' c' Try.underlying22
  have hmm := @run_makeMap Try.prog
  have T0 := hide t0
  have T1 := hide t1
  have M0 := hide m0
  have M1 := hide m1
  clear t0 t1 m0 m1
  cases a0 with
  | none =>
    go_enter Try.func10, Try.ntmps10
    go_wp2
    go_ret
    exact ⟨_, _, rfl, .inl ⟨rfl, rfl⟩, Below.refl _ _⟩
  | some b =>
    go_enter Try.func10, Try.ntmps10
    go_wp2
    go_loopw [6] (fun i wr => ∃ (k : Nat) (D : DataW Unit), k ≤ n ∧ i = .int .i64 k ∧ wr.ownsMap Try.prog 9 (plainElem Try.prog 9) w.heap.size k D ∧ Below w.heap.size w wr) (fun i _ => n - (intOf i).toNat)
    case atStart => exact ⟨0, .map [], Nat.zero_le _, rfl, World.ownsMap_made _ _ _ _, (Below.refl _ _).alloc (Nat.le_refl _) _⟩
    case round =>
      obtain ⟨k, D, hk, rfl, hown, hb⟩ := hrel
      by_cases hlt : k < n
      · cases ha1 : a1 with
        | none => exact absurd (T1.out.none ha1) (by omega)
        | some b1 =>
          have e0 := T0.out.cell b rfl k hlt
          have e1 := T1.out.cell b1 ha1 k hlt
          have d0 := (hb.cell (World.block_lt_of_cell? w _ e0)).trans e0
          have d1 := (hb.cell (World.block_lt_of_cell? w _ e1)).trans e1
          obtain ⟨w1, hrun, hown1, hg1⟩ := hown.drew.update law Try.underlying26 (by unfold maxLen; omega) (keyS (M0.out k hlt)) (plainElem_string (H := Unit) Try.underlying9 (M1.out k hlt))
          have R1 := hide hown1
          have R2 := hide (hb.drew.grown hg1 hb.size (fun j hj => by cases hj; exact Nat.le_refl _))
          clear e0 e1 hown1 hg1 hown ha1
          generalize X0 k = x0 at *
          generalize X1 k = x1 at *
          go_wp2
          go_region
          go_wp2
          go_roundw
          case rel => exact ⟨k + 1, _, by omega, by go_num, R1.out, R2.out⟩
          case measure => simp [intOf]; omega
      · go_wp2
        go_ret
        exact ⟨_, D, rfl, .inr ⟨_, rfl, k, by omega, hown⟩, hb⟩
end Go.Proofs.Qxb6602900a

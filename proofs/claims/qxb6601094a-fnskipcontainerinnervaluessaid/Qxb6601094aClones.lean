/-
  sbCloneBytes (11), sbCloneStrings (12).
-/
import Derived.Test.Qxb6601094aClone
import Derived.Test.Qxb6601094aFour
namespace Go.Proofs.Qxb6601094a
open Go.RowKit
set_option linter.unusedVariables false

set_option maxHeartbeats 400000 in
theorem sbCloneBytes_any (ao : Option Addr) (n cap : Nat) (zs : List Int) (w : World) (hs : Src w ao n (zs.map (.int .u8))) (hn : n ≤ 1048576) :
    Calls Try.prog 11 #[.slice ao n cap] w fun e w' => ∃ ao', e = .returned (.slice ao' n n) ∧ w'.ownsRow w.heap.size 5 1 (.slice ao' n n) n (zs.map (.int .u8)) ∧ Below w.heap.size w w' := by
  have q22 : ∀ (w : World) (a : Option Addr) (n c n' c' : Nat), (binOp .eql 22 (.slice a n c) (.slice none n' c')).run Try.prog w = .ok (.bool a.isNone) w := fun w a n c n' c' => Lib.run_eql_slice_nil w _ _ a n c n' c' Try.underlying22
  obtain ⟨i0, hi, hz0, hz1, hz2⟩ := info_parts info5
  obtain ⟨hl, h0, hc⟩ := hs
  cases ao with
  | none =>
    obtain rfl := h0 rfl
    obtain rfl : zs = [] := by simpa using hl
    go_enter Try.func11, Try.ntmps11
    go_wp2
    go_ret
    exact ⟨none, rfl, World.ownsRow_nil _ _ _ _, Below.refl _ _⟩
  | some b =>
    have hc' : Hid (∀ j u, (zs.map (Value.int .u8))[j]? = some u → w.cell? (b.add j) = some u) := hc b rfl
    have HL : Hid ((zs.map (Value.int .u8)).length = n) := hl
    clear hc h0 hl
    go_enter Try.func11, Try.ntmps11
    go_wp2_with (at_make; refine wpList_make_full _ rfl _ _ 22 rfl w.heap.size 5 i0 (.int .u8 0) 1 Try.underlying22 hi hz0 hz1 _ _ _ _ n rfl rfl rfl rfl (by rw [hz2]; omega) (by unfold maxLen; omega) (Nat.le_refl _) ?_)
    intro w1 hown hgrow
    have hown0 : w1.ownsRow w.heap.size 5 1 (.slice (some ⟨w.heap.size, 0, none⟩) n n) n (half (zs.map (.int .u8)) (.int .u8 0) 0) := by
      rw [half_zero, HL.out]
      rwa [toList_madeCells_one] at hown
    have hbel : Below w.heap.size w w1 := (Below.refl _ _).grown hgrow (Nat.le_refl _) (by simp)
    have hlen : Hid (zs.length = n) := hide (by have := HL.out; simpa using this)
    clear hown hgrow
    go_wp2
    go_loopw [4] (fun i wr => ∃ k : Nat, k ≤ n ∧ i = .int .i64 k ∧ wr.ownsRow w.heap.size 5 1 (.slice (some ⟨w.heap.size, 0, none⟩) n n) n (half (zs.map (.int .u8)) (.int .u8 0) k) ∧ Below w.heap.size w wr) (fun i _ => n - (intOf i).toNat)
    case atStart => exact ⟨0, Nat.zero_le _, rfl, hown0, hbel⟩
    case round =>
      obtain ⟨k, hk, rfl, hown, hb⟩ := hrel
      clear hown0 hbel
      by_cases hlt : k < n
      · have hcs : (zs.map (Value.int .u8))[k]? = some (.int .u8 (zs.getD k 0)) := by
          have := hlen.out
          have hk' : k < zs.length := by omega
          simp [List.getD_eq_getElem?_getD, List.getElem?_eq_getElem hk']
        have c1 := hc'.out k _ hcs
        have c2 : wr.cell? (b.add k) = some (.int .u8 (zs.getD k 0)) := (hb.cell (World.block_lt_of_cell? w _ c1)).trans c1
        obtain ⟨v, hv⟩ := half_cell (zs.map (.int .u8)) (.int .u8 0) k (by have := hlen.out; simp; omega)
        have c3 : wr.cell? ⟨w.heap.size, k, none⟩ = some v := (hown.cellAt k (by omega)).trans hv
        have c4 : wr.frozen? ⟨w.heap.size, k, none⟩ = false := hown.frozenAt k
        have R := clone_step (Nat.le_refl _) hown hb hcs
        have HR := hide R
        clear R hown hv c1 hcs
        generalize zs.getD k 0 = x at *
        go_wp2
        go_roundw
        case rel => exact ⟨k + 1, by omega, by go_num, HR.out.1, HR.out.2⟩
        case measure => simp [intOf]; omega
      · have hkn : Hid (k = n) := by have : k = n := by omega
                                     exact this
        go_wp2
        go_ret
        refine ⟨_, rfl, ?_, hb⟩
        have e : half (zs.map (Value.int .u8)) (.int .u8 0) k = zs.map (.int .u8) := by
          have := half_all (zs.map (Value.int .u8)) (.int .u8 0)
          rwa [HL.out, ← hkn.out] at this
        rwa [e] at hown

theorem info9 : (Try.prog.info? 9).map (fun i => (i.zero, i.size, i.bytes)) = some (some (.string ByteArray.empty), 1, 16) := by kernel_rfl

/-- The cells of the first n strings. -/
def strCells (n : Nat) (X : Nat → ByteArray) : List Value := (List.range n).map fun r => .string (X r)

theorem strCells_get {n r : Nat} (X : Nat → ByteArray) (h : r < n) : (strCells n X)[r]? = some (.string (X r)) := by
  simp [strCells, List.getElem?_map, List.getElem?_range h]

theorem strCells_length (n : Nat) (X : Nat → ByteArray) : (strCells n X).length = n := by simp [strCells]

set_option maxHeartbeats 400000 in
theorem sbCloneStrings_any (ao : Option Addr) (n cap : Nat) (X : Nat → ByteArray) (w : World) (hs : Texts w ao n X) (hn : n ≤ 1048576) :
    Calls Try.prog 12 #[.slice ao n cap] w fun e w' => ∃ ao', e = .returned (.slice ao' n n) ∧ Texts w' ao' n X ∧ Below w.heap.size w w' := by
  have q23 : ∀ (w : World) (a : Option Addr) (n c n' c' : Nat), (binOp .eql 23 (.slice a n c) (.slice none n' c')).run Try.prog w = .ok (.bool a.isNone) w := fun w a n c n' c' => Lib.run_eql_slice_nil w _ _ a n c n' c' Try.underlying23
  obtain ⟨i0, hi, hz0, hz1, hz2⟩ := info_parts info9
  obtain ⟨h0, hc⟩ := hs
  cases ao with
  | none =>
    have hn0 := h0 rfl
    subst hn0
    have HT : Hid (Texts w none 0 X) := ⟨fun _ => rfl, fun b h => by cases h⟩
    clear hc h0
    go_enter Try.func12, Try.ntmps12
    go_wp2
    go_ret
    exact ⟨none, rfl, HT.out, Below.refl _ _⟩
  | some b =>
    have hc' := hideA (hc b rfl)
    clear hc h0
    go_enter Try.func12, Try.ntmps12
    go_wp2_with (at_make; refine wpList_make_full _ rfl _ _ 23 rfl w.heap.size 9 i0 (.string ByteArray.empty) 1 Try.underlying23 hi hz0 hz1 _ _ _ _ n rfl rfl rfl rfl (by rw [hz2]; omega) (by unfold maxLen; omega) (Nat.le_refl _) ?_)
    intro w1 hown hgrow
    have hown0 : w1.ownsRow w.heap.size 9 1 (.slice (some ⟨w.heap.size, 0, none⟩) n n) n (half (strCells n X) (.string ByteArray.empty) 0) := by
      rw [half_zero, strCells_length]
      rwa [toList_madeCells_one] at hown
    have hbel : Below w.heap.size w w1 := (Below.refl _ _).grown hgrow (Nat.le_refl _) (by simp)
    clear hown hgrow
    go_wp2
    go_loopw [4] (fun i wr => ∃ k : Nat, k ≤ n ∧ i = .int .i64 k ∧ wr.ownsRow w.heap.size 9 1 (.slice (some ⟨w.heap.size, 0, none⟩) n n) n (half (strCells n X) (.string ByteArray.empty) k) ∧ Below w.heap.size w wr) (fun i _ => n - (intOf i).toNat)
    case atStart => exact ⟨0, Nat.zero_le _, rfl, hown0, hbel⟩
    case round =>
      obtain ⟨k, hk, rfl, hown, hb⟩ := hrel
      clear hown0 hbel
      by_cases hlt : k < n
      · have hcs := strCells_get X hlt
        have c1 := hc'.out k hlt
        have c2 : wr.cell? (b.add k) = some (.string (X k)) := (hb.cell (World.block_lt_of_cell? w _ c1)).trans c1
        obtain ⟨v, hv⟩ := half_cell (strCells n X) (.string ByteArray.empty) k (by rw [strCells_length]; exact hlt)
        have c3 : wr.cell? ⟨w.heap.size, k, none⟩ = some v := (hown.cellAt k (by omega)).trans hv
        have c4 : wr.frozen? ⟨w.heap.size, k, none⟩ = false := hown.frozenAt k
        have HR := hideA (clone_step (Nat.le_refl _) hown hb hcs)
        clear hown hv c1 hcs
        generalize X k = x at *
        go_wp2
        go_roundw
        case rel => exact ⟨k + 1, by omega, by go_num, HR.out.1, HR.out.2⟩
        case measure => simp [intOf]; omega
      · have hkn : Hid (k = n) := by have : k = n := by omega
                                     exact this
        go_wp2
        go_ret
        refine ⟨_, rfl, ?_, hb⟩
        have e : half (strCells n X) (.string ByteArray.empty) k = strCells n X := by
          have h := half_all (strCells n X) (.string ByteArray.empty)
          rw [strCells_length] at h
          rw [hkn.out]
          exact h
        rw [e] at hown
        refine ⟨(fun h => by cases h), fun b' hb' r hr => ?_⟩
        cases hb'
        exact hown.cells (g := w.heap.size) rfl r _ (strCells_get X hr)
end Go.Proofs.Qxb6601094a

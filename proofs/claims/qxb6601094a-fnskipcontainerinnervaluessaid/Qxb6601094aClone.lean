/-
  A fresh copy of a slice: what aeClone, sbCloneBytes and their like do.
-/
import Derived.Test.Qxb6601094aEsc
import Derived.Deep.LoopGhost
namespace Go.Proofs.Qxb6601094a
open Go.RowKit

/-- What is read of a slice that comes in: n elements of one cell each. -/
def Src (w : World) (ao : Option Addr) (n : Nat) (cs : List Value) : Prop :=
  cs.length = n ∧ (ao = none → n = 0) ∧ ∀ b, ao = some b → ∀ j u, cs[j]? = some u → w.cell? (b.add j) = some u

theorem Src.later {w wr : World} {ao : Option Addr} {n : Nat} {cs : List Value} (h : Src w ao n cs) (hb : Below w.heap.size w wr) : Src wr ao n cs :=
  ⟨h.1, h.2.1, fun b e j u hu => by
    have hc := h.2.2 b e j u hu
    exact (hb.cell (World.block_lt_of_cell? w _ hc)).trans hc⟩

/-- What has been copied behind k rounds. -/
def half (cs : List Value) (z : Value) (k : Nat) : List Value := cs.take k ++ List.replicate (cs.length - k) z

theorem half_zero (cs : List Value) (z : Value) : half cs z 0 = List.replicate cs.length z := by simp [half]
theorem half_all (cs : List Value) (z : Value) : half cs z cs.length = cs := by simp [half]
theorem half_set (cs : List Value) (z u : Value) (k : Nat) (hk : cs[k]? = some u) : (half cs z k).set k u = half cs z (k + 1) := by
  obtain ⟨hlt, rfl⟩ := List.getElem?_eq_some_iff.1 hk
  apply List.ext_getElem?
  intro i
  have hl : (List.take k cs).length = k := by simp; omega
  simp only [half, List.getElem?_set, List.getElem?_append, List.length_append, List.length_take, List.length_replicate, List.getElem?_take, List.getElem?_replicate]
  by_cases h1 : k = i
  · subst h1
    have : min k cs.length + (cs.length - k) = cs.length := by omega
    simp [this, hlt, Nat.min_eq_left (Nat.succ_le_of_lt hlt)]
  · simp only [h1, if_false]
    by_cases h2 : i < k
    · simp [h2, Nat.lt_succ_of_lt h2, Nat.min_eq_left (Nat.le_of_lt hlt), Nat.min_eq_left (Nat.succ_le_of_lt hlt)]
    · have h3 : ¬ i < k + 1 := by omega
      simp [h2, h3, Nat.min_eq_left (Nat.le_of_lt hlt), Nat.min_eq_left (Nat.succ_le_of_lt hlt)]
      by_cases h4 : i < cs.length
      · rw [if_pos (by omega), if_pos (by omega)]
      · rw [if_neg (by omega), if_neg (by omega)]

/-- The round's step on the world: the k-th cell is stored. -/
theorem clone_step {w wr : World} {e : TypeId} {B n : Nat} {cs : List Value} {z u : Value} {k : Nat} (hB : w.heap.size ≤ B)
    (hown : wr.ownsRow w.heap.size e 1 (.slice (some ⟨B, 0, none⟩) n n) n (half cs z k)) (hb : Below w.heap.size w wr) (hk : cs[k]? = some u) :
    (wr.setCell ⟨B, k, none⟩ u).ownsRow w.heap.size e 1 (.slice (some ⟨B, 0, none⟩) n n) n (half cs z (k + 1)) ∧ Below w.heap.size w (wr.setCell ⟨B, k, none⟩ u) := by
  have h := (hown.stored k u).1
  rw [half_set cs z u k hk] at h
  exact ⟨h, hb.setCell (by exact hB) u⟩

theorem half_cell (cs : List Value) (z : Value) (k : Nat) (hk : k < cs.length) : ∃ v, (half cs z k)[k]? = some v := by
  have : k < (half cs z k).length := by simp [half]; omega
  exact ⟨_, List.getElem?_eq_getElem this⟩

set_option maxHeartbeats 400000 in
theorem aeClone_any (ao : Option Addr) (n cap : Nat) (zs : List Int) (w : World) (hs : Src w ao n (zs.map (.int .u8))) (hn : n ≤ 1048576) :
    Calls Try.prog 17 #[.slice ao n cap] w fun e w' => ∃ ao', e = .returned (.slice ao' n n) ∧ w'.ownsRow w.heap.size 5 1 (.slice ao' n n) n (zs.map (.int .u8)) ∧ Below w.heap.size w w' := by
  have q22 : ∀ (w : World) (a : Option Addr) (n c n' c' : Nat), (binOp .eql 22 (.slice a n c) (.slice none n' c')).run Try.prog w = .ok (.bool a.isNone) w := fun w a n c n' c' => Lib.run_eql_slice_nil w _ _ a n c n' c' Try.underlying22
  obtain ⟨i0, hi, hz0, hz1, hz2⟩ := info_parts info5
  obtain ⟨hl, h0, hc⟩ := hs
  cases ao with
  | none =>
    obtain rfl := h0 rfl
    obtain rfl : zs = [] := by simpa using hl
    go_enter Try.func17, Try.ntmps17
    go_wp2
    go_ret
    exact ⟨none, rfl, World.ownsRow_nil _ _ _ _, Below.refl _ _⟩
  | some b =>
    have hc' : Hid (∀ j u, (zs.map (Value.int .u8))[j]? = some u → w.cell? (b.add j) = some u) := hc b rfl
    have HL : Hid ((zs.map (Value.int .u8)).length = n) := hl
    clear hc h0 hl
    go_enter Try.func17, Try.ntmps17
    go_wp2_with (at_make; refine wpList_make_full _ rfl _ _ 22 rfl w.heap.size 5 i0 (.int .u8 0) 1 Try.underlying22 hi hz0 hz1 _ _ _ _ n rfl rfl rfl rfl (by rw [hz2]; omega) (by unfold maxLen; omega) (Nat.le_refl _) ?_)
    intro w1 hown hgrow
    have hown0 : w1.ownsRow w.heap.size 5 1 (.slice (some ⟨w.heap.size, 0, none⟩) n n) n (half (zs.map (.int .u8)) (.int .u8 0) 0) := by
      rw [half_zero, HL.out]
      rwa [toList_madeCells_one] at hown
    have hbel : Below w.heap.size w w1 := (Below.refl _ _).grown hgrow (Nat.le_refl _) (by simp)
    have hlen : Hid (zs.length = n) := hide (by have := HL.out; simpa using this)
    clear hown hgrow
    go_wp2
    go_loopw [4] (fun i wr => ∃ k : Nat, k ≤ n ∧ i = .int .i64 k ∧ wr.ownsRow w.heap.size 5 1 (.slice (some ⟨w.heap.size, 0, none⟩) n n) n (half (zs.map (.int .u8)) (.int .u8 0) k) ∧ Below w.heap.size w wr) (fun i _ => n - (intOf i).toNat)
    case atStart => exact ⟨0, Nat.zero_le _, rfl, hown0, hbel⟩
    case round =>
      obtain ⟨k, hk, rfl, hown, hb⟩ := hrel
      clear hown0 hbel
      by_cases hlt : k < n
      · have hcs : (zs.map (Value.int .u8))[k]? = some (.int .u8 (zs.getD k 0)) := by
          have := hlen.out
          have hk' : k < zs.length := by omega
          simp [List.getD_eq_getElem?_getD, List.getElem?_eq_getElem hk']
        have c1 := hc'.out k _ hcs
        have c2 : wr.cell? (b.add k) = some (.int .u8 (zs.getD k 0)) := (hb.cell (World.block_lt_of_cell? w _ c1)).trans c1
        obtain ⟨v, hv⟩ := half_cell (zs.map (.int .u8)) (.int .u8 0) k (by have := hlen.out; simp; omega)
        have c3 : wr.cell? ⟨w.heap.size, k, none⟩ = some v := (hown.cellAt k (by omega)).trans hv
        have c4 : wr.frozen? ⟨w.heap.size, k, none⟩ = false := hown.frozenAt k
        have R := clone_step (Nat.le_refl _) hown hb hcs
        have HR := hide R
        clear R hown hv c1 hcs
        generalize zs.getD k 0 = x at *
        go_wp2
        go_roundw
        case rel => exact ⟨k + 1, by omega, by go_num, HR.out.1, HR.out.2⟩
        case measure => simp [intOf]; omega
      · have hkn : Hid (k = n) := by have : k = n := by omega
                                     exact this
        go_wp2
        go_ret
        refine ⟨_, rfl, ?_, hb⟩
        have e : half (zs.map (Value.int .u8)) (.int .u8 0) k = zs.map (.int .u8) := by
          have := half_all (zs.map (Value.int .u8)) (.int .u8 0)
          rwa [HL.out, ← hkn.out] at this
        rwa [e] at hown
end Go.Proofs.Qxb6601094a

/-
  (*fields).lookup (32): along the list.
-/
import Derived.Test.Qxb6601094aLkSame
import Derived.Laws.BytesArg
namespace Go.Proofs.Qxb6601094a
open Go.RowKit
set_option linter.unusedVariables false

/-- The first place whose name is s, or -1. -/
def First (S : Nat → List UInt8) (s : ByteArray) (n : Nat) (x : Int) : Prop :=
  (x = -1 ∧ ∀ r, r < n → sameB (S r) s = false) ∨ ∃ r : Nat, x = r ∧ r < n ∧ sameB (S r) s = true ∧ ∀ j, j < r → sameB (S j) s = false

theorem sameB_eq (l : List UInt8) (s : ByteArray) : sameB l s = (l == s.toList) := by
  rw [ByteArray.toList_eq]
  unfold sameB
  by_cases h : l = s.data.toList
  · rw [h]; simp
  · simp [h]

theorem bytes_back (l : List UInt8) : ((l.map fun b => (b.toNat : Int)).map fun n => UInt8.ofNat n.toNat) = l := by
  rw [List.map_map]
  conv => rhs; rw [← List.map_id l]
  apply List.map_congr_left
  intro b _
  simp

theorem run_conv {w : World} {ao : Option Addr} {n cap : Nat} {l : List UInt8} (h : Src w ao n (bc l)) : (convert 22 9 (.slice ao n cap)).run Try.prog w = .ok (.string ⟨l.toArray⟩) w := by
  cases ao with
  | none =>
    have h0 : n = 0 := h.2.1 rfl
    have h1 : l.length = n := by have := h.1; rwa [bc_length] at this
    obtain rfl : l = [] := List.eq_nil_of_length_eq_zero (by omega)
    exact run_convert_bytes_nil w 22 5 Try.underlying22 Try.underlying5 n cap 9 Try.underlying9
  | some a =>
    have hl : (loadCells a n).run Try.prog w = .ok ((l.map fun b => (b.toNat : Int)).map (Value.int .u8)).toArray w := by
      have := run_loadCells_list (P := Try.prog) w a (bc l) (h.2.2 a rfl)
      rw [h.1] at this
      rw [this]
      simp [bc]
    rw [run_convert_bytes_string w 22 9 5 _ n cap Try.underlying22 Try.underlying5 Try.underlying9, run_bytesToString w _ n cap _ hl, foldl_push_bytes, bytes_back]
    show Result.ok (Value.string ⟨#[] ++ l.toArray⟩) w = _
    simp

set_option maxHeartbeats 400000 in
theorem lookup_any (F Lb n : Nat) (A : Nat → Option Addr) (L C : Nat → Nat) (S : Nat → List UInt8) (s : ByteArray) (w : World) (hF0 : w.cell? ⟨F, 0, none⟩ = some (.slice (some ⟨Lb, 0, none⟩) n n)) (hF1 : w.cell? ⟨F, 1, none⟩ = some (.map none))
    (hN : ∀ r, r < n → w.cell? ⟨Lb, r * 3, none⟩ = some (.slice (A r) (L r) (C r)) ∧ w.cell? ⟨Lb, r * 3 + 1, none⟩ = some (.slice none 0 0) ∧ w.cell? ⟨Lb, r * 3 + 2, none⟩ = some (.int .i64 0))
    (hS : ∀ r, r < n → Src w (A r) (L r) (bc (S r))) (hn : n ≤ 1048576) :
    Calls Try.prog 32 #[.pointer (some ⟨F, 0, none⟩), .string s] w fun e w' => ∃ x, e = .returned (.int .i64 x) ∧ First S s n x ∧ Below w.heap.size w w' := by
  have hmn : ∀ w, (binOp .neq 45 (.map none) (.map none)).run Try.prog w = .ok (.bool false) w := fun w => by kernel_rfl
  have HN := hide hN
  have HS := hide hS
  clear hN hS
  go_enter Try.func32, Try.ntmps32
  go_wp2
  go_loopw [30] (fun i wr => ∃ k : Nat, k ≤ n ∧ i = .int .i64 k ∧ (∀ j, j < k → sameB (S j) s = false) ∧ Below w.heap.size w wr) (fun i _ => n - (intOf i).toNat)
  case atStart => exact ⟨0, Nat.zero_le _, rfl, fun j h => by omega, Below.refl _ _⟩
  case round =>
    obtain ⟨k, hk, rfl, heq, hb⟩ := hrel
    have HE := hide heq
    clear heq hF0 hF1
    by_cases hlt : k < n
    · obtain ⟨c0, c1, c2⟩ := HN.out k hlt
      have d0 := (hb.cell (World.block_lt_of_cell? w _ c0)).trans c0
      have d1 := (hb.cell (World.block_lt_of_cell? w _ c1)).trans c1
      have d2 := (hb.cell (World.block_lt_of_cell? w _ c2)).trans c2
      have hsr : Src wr (A k) (L k) (bc (S k)) := (HS.out k hlt).later hb
      have hcv : ∀ o, (convert 22 9 (.slice (A k) (L k) (C k))).run Try.prog (wr.alloc o) = .ok (.string ⟨(S k).toArray⟩) (wr.alloc o) := fun o => run_conv (hsr.later ((Below.refl _ wr).alloc (Nat.le_refl _) o))
      clear c0 c1 c2 hsr
      go_wp2
      · have ht : (S k == s.toList) = true := by assumption
        go_ret
        refine ⟨(k : Int), rfl, .inr ⟨k, rfl, hlt, ?_, HE.out⟩, hb.alloc hb.size _⟩
        rw [sameB_eq]; exact ht
      · have ht : (S k == s.toList) = false := by assumption
        go_roundw
        case rel =>
          refine ⟨k + 1, by omega, by go_num, ?_, hb.alloc hb.size _⟩
          intro j hj
          by_cases hjk : j < k
          · exact HE.out j hjk
          · have : j = k := by omega
            rw [this, sameB_eq]; exact ht
        case measure => simp [intOf]; omega
    · go_wp2
      go_ret
      exact ⟨-1, rfl, .inl ⟨rfl, fun r hr => HE.out r (by omega)⟩, hb⟩
end Go.Proofs.Qxb6601094a

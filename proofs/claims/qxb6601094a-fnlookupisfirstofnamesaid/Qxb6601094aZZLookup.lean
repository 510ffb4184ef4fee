/-
  ZZLookup (24), no index.
-/
import Derived.Test.Qxb6601094aLookup
namespace Go.Proofs.Qxb6601094a
open Go.RowKit
set_option linter.unusedVariables false

theorem info53 : (Try.prog.info? 53).map (fun i => (i.zero, i.size, i.bytes)) = some (some (.agg #[.slice none 0 0, .slice none 0 0, .int .i64 0]), 3, 56) := by kernel_rfl

/-- The list of fields behind k rounds: the first k names are laid. -/
def Laid (n k : Nat) (A : Nat → Option Addr) (L C : Nat → Nat) (xs : List Value) : Prop :=
  ∀ r, r < n → xs[r * 3]? = some (if r < k then .slice (A r) (L r) (C r) else .slice none 0 0) ∧ xs[r * 3 + 1]? = some (.slice none 0 0) ∧ xs[r * 3 + 2]? = some (.int .i64 0)

theorem Laid.start (n : Nat) (A : Nat → Option Addr) (L C : Nat → Nat) : Laid n 0 A L C (madeCells (Value.cells (.agg #[.slice none 0 0, .slice none 0 0, .int .i64 0])) (n * 3)).toList := by
  intro r hr
  have e : Value.cells (.agg #[.slice none 0 0, .slice none 0 0, .int .i64 0]) = #[.slice none 0 0, .slice none 0 0, .int .i64 0] := by rfl
  rw [e]
  have g : ∀ j, j < n * 3 → (madeCells #[.slice none 0 0, .slice none 0 0, .int .i64 0] (n * 3)).toList[j]? = some ((#[Value.slice none 0 0, .slice none 0 0, .int .i64 0] : Array Value)[j % 3]!) := by
    intro j hj
    rw [Array.getElem?_toList]
    simp [madeCells, hj]
  refine ⟨?_, ?_, ?_⟩
  · rw [g _ (by omega), Nat.mul_mod_left]; simp
  · rw [g _ (by omega), show (r * 3 + 1) % 3 = 1 by omega]; rfl
  · rw [g _ (by omega), show (r * 3 + 2) % 3 = 2 by omega]; rfl

theorem Laid.step {n k : Nat} {A : Nat → Option Addr} {L C : Nat → Nat} {xs : List Value} (h : Laid n k A L C xs) (hl : xs.length = n * 3) (hk : k < n) : Laid n (k + 1) A L C (xs.set (k * 3) (.slice (A k) (L k) (C k))) := by
  intro r hr
  obtain ⟨h1, h2, h3⟩ := h r hr
  refine ⟨?_, ?_, ?_⟩
  · rw [List.getElem?_set]
    by_cases e : k = r
    · subst e
      simp; omega
    · rw [if_neg (by omega), h1]
      by_cases h : r < k
      · rw [if_pos h, if_pos (by omega)]
      · rw [if_neg h, if_neg (by omega)]
  · rw [List.getElem?_set, if_neg (by omega), h2]
  · rw [List.getElem?_set, if_neg (by omega), h3]

set_option maxHeartbeats 400000 in
theorem ZZLookup_any (ao : Option Addr) (n cap : Nat) (A : Nat → Option Addr) (L C : Nat → Nat) (S : Nat → List UInt8) (s : ByteArray) (w : World) (hs : Names w ao n A L C S) (hn : n ≤ 1048576) :
    Calls Try.prog 24 #[.slice ao n cap, .map none, .string s] w fun e w' => ∃ x, e = .returned (.int .i64 x) ∧ First S s n x ∧ Below w.heap.size w w' := by
  obtain ⟨i0, hi, hz0, hz1, hz2⟩ := info_parts info53
  have HS := hide hs
  clear hs
  go_enter Try.func24, Try.ntmps24
  go_wp2_with (at_make; refine wpList_make_full _ rfl _ _ 51 rfl w.heap.size 53 i0 (.agg #[.slice none 0 0, .slice none 0 0, .int .i64 0]) 3 Try.underlying51 hi hz0 hz1 _ _ _ _ n rfl rfl rfl rfl (by rw [hz2]; omega) (by unfold maxLen; omega) (Nat.le_refl _) ?_)
  intro w1 hown hgrow
  have hF : w.heap.size < w1.heap.size := (hown.lt _ rfl).2
  have HO := hide hown
  have hbel : Below w.heap.size w w1 := (Below.refl _ _).grown hgrow (Nat.le_refl _) (by simp)
  clear hown hgrow
  go_wp2
  go_loopw [8] (fun i wr => ∃ k : Nat, k ≤ n ∧ i = .int .i64 k ∧ (∃ xs, wr.ownsRow w.heap.size 53 3 (.slice (some ⟨w.heap.size, 0, none⟩) n n) n xs ∧ Laid n k A L C xs) ∧
      wr.cell? ⟨w1.heap.size, 0, none⟩ = some (.slice (some ⟨w.heap.size, 0, none⟩) n n) ∧ wr.cell? ⟨w1.heap.size, 1, none⟩ = some (.map none) ∧ Below w.heap.size w wr) (fun i _ => n - (intOf i).toNat)
  case atStart =>
    refine ⟨0, Nat.zero_le _, rfl, ⟨_, HO.out.alloc _, Laid.start n A L C⟩, by simp, by simp, hbel.alloc hbel.size _⟩
  case round =>
    obtain ⟨k, hk, rfl, ⟨xs, hown, hlaid⟩, hc0, hc1, hb⟩ := hrel
    by_cases hlt : k < n
    · have hlen := hown.1
      have R1 := hide (hlaid.step hlen hlt)
      have R2 := hide (fun u => (hown.stored (k * 3) u).1)
      have c3 : wr.cell? ⟨w.heap.size, k * 3, none⟩ = some (.slice none 0 0) := by
        rw [hown.cellAt (k * 3) (by omega), (hlaid k hlt).1, if_neg (by omega)]
      have c4 : wr.frozen? ⟨w.heap.size, k * 3, none⟩ = false := hown.frozenAt (k * 3)
      cases hao : ao with
      | none => exact absurd (HS.out.none hao) (by omega)
      | some b =>
        have d0 := HS.out.cell b hao k hlt
        have d1 := (hb.cell (World.block_lt_of_cell? w _ d0)).trans d0
        clear d0 hlaid hlen hown hbel HO HS hao
        go_wp2
        go_region
        go_wp2
        go_roundw
        case rel =>
          have hne : w1.heap.size ≠ w.heap.size := by omega
          have far : ∀ (o : Nat) (v u : Value), wr.cell? ⟨w1.heap.size, o, none⟩ = some u → (wr.setCell ⟨w.heap.size, k * 3, none⟩ v).cell? ⟨w1.heap.size, o, none⟩ = some u := by
            intro o v u h
            exact (World.cell?_of_block (Below.heap_setCell wr ⟨w.heap.size, k * 3, none⟩ v w1.heap.size hne)).trans h
          exact ⟨k + 1, by omega, by go_num, ⟨_, R2.out _, R1.out⟩, far 0 _ _ hc0, far 1 _ _ hc1, (hb.setCell (by exact Nat.le_refl _) _).drew⟩
        case measure => simp [intOf]; omega
    · have hkn : k = n := by omega
      have hN : ∀ r, r < n → wr.cell? ⟨w.heap.size, r * 3, none⟩ = some (.slice (A r) (L r) (C r)) ∧ wr.cell? ⟨w.heap.size, r * 3 + 1, none⟩ = some (.slice none 0 0) ∧ wr.cell? ⟨w.heap.size, r * 3 + 2, none⟩ = some (.int .i64 0) := by
        intro r hr
        obtain ⟨h1, h2, h3⟩ := hlaid r hr
        rw [if_pos (by omega)] at h1
        exact ⟨(hown.cellAt _ (by omega)).trans h1, (hown.cellAt _ (by omega)).trans h2, (hown.cellAt _ (by omega)).trans h3⟩
      have hSr := fun r hr => ((HS.out.later hb).row r hr)
      clear hkn hown hlaid HO HS hbel
      have HN := hide hN
      have HR := hide hSr
      clear hN hSr
      go_wp2_with fail
      refine (lookup_any w1.heap.size w.heap.size n A L C S s _ hc0 hc1 HN.out HR.out hn).mono ?_
      rintro e w2 ⟨x, rfl, hx, hb2⟩
      have hbb : Below w.heap.size w w2 := hb.trans (hb2.mono hb.size)
      clear hc0 hc1 HN HR hb hb2
      go_wp2
      go_ret
      exact ⟨x, rfl, hx, hbb⟩
end Go.Proofs.Qxb6601094a

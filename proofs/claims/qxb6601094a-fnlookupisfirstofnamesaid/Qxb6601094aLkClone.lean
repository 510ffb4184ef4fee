/-
  lkCloneNames (23): a deep copy.
-/
import Derived.Test.Qxb6601094aLkBase
namespace Go.Proofs.Qxb6601094a
open Go.RowKit
set_option linter.unusedVariables false

theorem info22 : (Try.prog.info? 22).map (fun i => (i.zero, i.size, i.bytes)) = some (some (.slice none 0 0), 1, 24) := by kernel_rfl

theorem owns_later {w w' : World} {base : Nat} {e : TypeId} {size : Nat} {v : Value} {n : Nat} {xs : List Value} (h : w.ownsRow base e size v n xs) (hb : Below w.heap.size w w') : w'.ownsRow base e size v n xs := by
  obtain ⟨hl, h | ⟨g, cap, cur, e1, e2, e3, e4⟩⟩ := h
  · exact ⟨hl, .inl h⟩
  · exact ⟨hl, .inr ⟨g, cap, cur, e1, e2, (hb.block g (Array.getElem?_eq_some_iff.1 e3).1).trans e3, e4⟩⟩

/-- The cells of the new list behind k rounds. -/
def newCells (n k : Nat) (A' : Nat → Option Addr) (L : Nat → Nat) : List Value := (List.range n).map fun r => if r < k then .slice (A' r) (L r) (L r) else .slice none 0 0

theorem newCells_get {n k r : Nat} (A' : Nat → Option Addr) (L : Nat → Nat) (h : r < n) : (newCells n k A' L)[r]? = some (if r < k then .slice (A' r) (L r) (L r) else .slice none 0 0) := by
  simp [newCells, List.getElem?_map, List.getElem?_range h]

theorem newCells_zero (n : Nat) (A' : Nat → Option Addr) (L : Nat → Nat) : newCells n 0 A' L = List.replicate n (.slice none 0 0) := by
  apply List.ext_getElem?
  intro i
  by_cases h : i < n
  · rw [newCells_get A' L h]; simp [h]
  · rw [List.getElem?_eq_none (by simp [newCells]; omega), List.getElem?_eq_none (by simp; omega)]

structure Cl (w : World) (B n k : Nat) (L : Nat → Nat) (S : Nat → List UInt8) (wr : World) (A' : Nat → Option Addr) : Prop where
  own : wr.ownsRow w.heap.size 22 1 (.slice (some ⟨B, 0, none⟩) n n) n (newCells n k A' L)
  row : ∀ r, r < k → Src wr (A' r) (L r) (bc (S r)) ∧ ∀ b, A' r = some b → B < b.block
  bel : Below w.heap.size w wr

/-- A name that is nil stays nil. -/
theorem Cl.nil {w wr : World} {B n k : Nat} {L : Nat → Nat} {S : Nat → List UInt8} {A' : Nat → Option Addr} (h : Cl w B n k L S wr A') (hk : k < n) (hs : Src wr none (L k) (bc (S k))) :
    Cl w B n (k + 1) L S wr (fun r => if r = k then none else A' r) := by
  have hL : L k = 0 := hs.2.1 rfl
  refine ⟨?_, ?_, h.bel⟩
  · have e : newCells n (k + 1) (fun r => if r = k then none else A' r) L = newCells n k A' L := by
      apply List.ext_getElem?
      intro i
      by_cases hi : i < n
      · rw [newCells_get _ L hi, newCells_get _ L hi]
        by_cases h1 : i = k
        · subst h1
          simp [hL]
        · by_cases h2 : i < k
          · have h3 : i < k + 1 := by omega
            simp [h1, h2, h3]
          · have h3 : ¬ i < k + 1 := by omega
            simp [h2, h3]
      · rw [List.getElem?_eq_none (by simp [newCells]; omega), List.getElem?_eq_none (by simp [newCells]; omega)]
    rw [e]; exact h.own
  · intro r hr
    by_cases h1 : r = k
    · subst h1
      simp only [if_true]
      exact ⟨hs, fun b hb => by cases hb⟩
    · simp only [h1, if_false]
      exact h.row r (by omega)

theorem Src.set {w : World} {ao : Option Addr} {n : Nat} {cs : List Value} (h : Src w ao n cs) (B o : Nat) (v : Value) (hB : ∀ b, ao = some b → B < b.block) : Src (w.setCell ⟨B, o, none⟩ v) ao n cs := by
  refine ⟨h.1, h.2.1, fun b e j u hu => ?_⟩
  have hblk : (b.add j).block = b.block := by unfold Addr.add; split <;> rfl
  have := hB b e
  refine (World.cell?_of_block (Below.heap_setCell w ⟨B, o, none⟩ v _ ?_)).trans (h.2.2 b e j u hu)
  rw [hblk]; show b.block ≠ B; omega

theorem src_of_owns {w : World} {base n g cap : Nat} {e : TypeId} {cs : List Value} (h : w.ownsRow base e 1 (.slice (some ⟨g, 0, none⟩) n cap) n cs) : Src w (some ⟨g, 0, none⟩) n cs := by
  refine ⟨by have := h.1; omega, (fun h => by cases h), fun b hb j u hu => ?_⟩
  cases hb
  exact h.cells (g := g) rfl j u hu

/-- A name that was copied is laid. -/
theorem Cl.put {w wr w2 : World} {B n k : Nat} {L : Nat → Nat} {S : Nat → List UInt8} {A' : Nat → Option Addr} (h : Cl w B n k L S wr A') (hk : k < n) (hB : w.heap.size ≤ B) (hB' : B < wr.heap.size)
    (hown : w2.ownsRow wr.heap.size 5 1 (.slice (some ⟨wr.heap.size, 0, none⟩) (L k) (L k)) (L k) (bc (S k))) (hb : Below wr.heap.size wr w2) :
    Cl w B n (k + 1) L S (w2.setCell ⟨B, k, none⟩ (.slice (some ⟨wr.heap.size, 0, none⟩) (L k) (L k))) (fun r => if r = k then some ⟨wr.heap.size, 0, none⟩ else A' r) := by
  refine ⟨?_, ?_, ?_⟩
  · have h1 := ((owns_later h.own hb).stored k (.slice (some ⟨wr.heap.size, 0, none⟩) (L k) (L k))).1
    have e : newCells n (k + 1) (fun r => if r = k then some ⟨wr.heap.size, 0, none⟩ else A' r) L = (newCells n k A' L).set k (.slice (some ⟨wr.heap.size, 0, none⟩) (L k) (L k)) := by
      apply List.ext_getElem?
      intro i
      by_cases hi : i < n
      · rw [newCells_get _ L hi, List.getElem?_set, newCells_get _ L hi]
        have hl : (newCells n k A' L).length = n := by simp [newCells]
        by_cases h1 : i = k
        · subst h1
          simp [hl, hi]
        · have h4 : ¬ k = i := fun h => h1 h.symm
          by_cases h2 : i < k
          · have h3 : i < k + 1 := by omega
            simp [h1, h2, h3, h4]
          · have h3 : ¬ i < k + 1 := by omega
            simp [h2, h3, h4]
      · rw [List.getElem?_eq_none (by simp [newCells]; omega), List.getElem?_eq_none (by simp [newCells]; omega)]
    rw [e]; exact h1
  · intro r hr
    by_cases h1 : r = k
    · subst h1
      simp only [if_true]
      refine ⟨(src_of_owns hown).set B r _ ?_, ?_⟩
      · intro b hb; cases hb; exact hB'
      · intro b hb; cases hb; exact hB'
    · simp only [h1, if_false]
      obtain ⟨h2, h3⟩ := h.row r (by omega)
      exact ⟨(h2.later hb).set B k _ h3, h3⟩
  · exact (h.bel.trans (hb.mono h.bel.size)).setCell (by exact hB) _

theorem Cl.start {w w1 : World} {n : Nat} {L : Nat → Nat} {S : Nat → List UInt8} (hown : w1.ownsRow w.heap.size 22 1 (.slice (some ⟨w.heap.size, 0, none⟩) n n) n (List.replicate n (.slice none 0 0))) (hb : Below w.heap.size w w1) :
    Cl w w.heap.size n 0 L S w1 (fun _ => none) := ⟨by rw [newCells_zero]; exact hown, fun r h => by omega, hb⟩

theorem Cl.names {w wr : World} {B n : Nat} {L : Nat → Nat} {S : Nat → List UInt8} {A' : Nat → Option Addr} (h : Cl w B n n L S wr A') (hbig : ∀ r, r < n → L r ≤ 9223372036854775807) : Names wr (some ⟨B, 0, none⟩) n A' L L S := by
  refine ⟨(fun h => by cases h), fun b hb r hr => ?_, fun r hr => (h.row r hr).1, hbig⟩
  cases hb
  have := h.own.cells (g := B) rfl r (.slice (A' r) (L r) (L r)) (by rw [newCells_get A' L hr, if_pos hr])
  exact this

/-- What the deep copy ends in. -/
def Cloned (w : World) (n : Nat) (L : Nat → Nat) (S : Nat → List UInt8) (e : Ending) (w' : World) : Prop :=
  ∃ ao A', e = .returned (.slice ao n n) ∧ Names w' ao n A' L L S ∧ Below w.heap.size w w'

set_option maxHeartbeats 400000 in
theorem lkClone_any (ao : Option Addr) (n cap : Nat) (A : Nat → Option Addr) (L C : Nat → Nat) (S : Nat → List UInt8) (w : World) (hs : Names w ao n A L C S) (hn : n ≤ 65536) (hL : ∀ r, r < n → L r ≤ 1048576) :
    Calls Try.prog 23 #[.slice ao n cap] w (Cloned w n L S) := by
  have q22 : ∀ (w : World) (a : Option Addr) (n c n' c' : Nat), (binOp .eql 22 (.slice a n c) (.slice none n' c')).run Try.prog w = .ok (.bool a.isNone) w := fun w a n c n' c' => Lib.run_eql_slice_nil w _ _ a n c n' c' Try.underlying22
  have q40 : ∀ (w : World) (a : Option Addr) (n c n' c' : Nat), (binOp .eql 40 (.slice a n c) (.slice none n' c')).run Try.prog w = .ok (.bool a.isNone) w := fun w a n c n' c' => Lib.run_eql_slice_nil w _ _ a n c n' c' Try.underlying40
  obtain ⟨i0, hi, hz0, hz1, hz2⟩ := info_parts info22
  obtain ⟨j0, ji, jz0, jz1, jz2⟩ := info_parts info5
  cases ao with
  | none =>
    have h0 := hs.none rfl
    subst h0
    have hnm : Names w none 0 A L L S := ⟨fun _ => rfl, (fun b h => by cases h), (fun r h => by omega), fun r h => by omega⟩
    have HN := hide hnm
    clear hnm hs hL
    go_enter Try.func23, Try.ntmps23
    go_wp2
    go_ret
    exact ⟨none, A, rfl, HN.out, Below.refl _ _⟩
  | some b =>
    have HS := hide hs
    have HL := hide hL
    have hB : ∀ w1 : World, Below w.heap.size w w1 → w1.ownsRow w.heap.size 22 1 (.slice (some ⟨w.heap.size, 0, none⟩) n n) n (List.replicate n (.slice none 0 0)) → w.heap.size < w1.heap.size := fun w1 _ h => (h.lt _ rfl).2
    clear hs hL
    go_enter Try.func23, Try.ntmps23
    go_wp2_with (at_make; refine wpList_make_full _ rfl _ _ 40 rfl w.heap.size 22 i0 (.slice none 0 0) 1 Try.underlying40 hi hz0 hz1 _ _ _ _ n rfl rfl rfl rfl (by rw [hz2]; omega) (by unfold maxLen; omega) (Nat.le_refl _) ?_)
    intro w1 hown hgrow
    have hbel : Below w.heap.size w w1 := (Below.refl _ _).grown hgrow (Nat.le_refl _) (by simp)
    have hown0 : w1.ownsRow w.heap.size 22 1 (.slice (some ⟨w.heap.size, 0, none⟩) n n) n (List.replicate n (.slice none 0 0)) := by rwa [toList_madeCells_one] at hown
    have hsz := hB w1 hbel hown0
    have hcl := Cl.start (L := L) (S := S) hown0 hbel
    have HC := hide hcl
    clear hown hgrow hbel hown0 hB hcl
    go_wp2
    go_loopw [4] (fun i wr => ∃ (k : Nat) (A' : Nat → Option Addr), k ≤ n ∧ i = .int .i64 k ∧ Cl w w.heap.size n k L S wr A' ∧ w.heap.size < wr.heap.size) (fun i _ => n - (intOf i).toNat)
    case atStart => exact ⟨0, _, Nat.zero_le _, rfl, HC.out, hsz⟩
    case round =>
      obtain ⟨k, A', hk, rfl, hcl, hsr⟩ := hrel
      obtain ⟨wo, hwo⟩ : ∃ wo, wo = wr := ⟨_, rfl⟩
      subst hwo
      clear HC
      have HC := hide hcl
      clear hcl
      by_cases hlt : k < n
      · have d0 := HS.out.cell b rfl k hlt
        have d1 := (HC.out.bel.cell (World.block_lt_of_cell? w _ d0)).trans d0
        have hrow : Src wo (A k) (L k) (bc (S k)) := (HS.out.row k hlt).later HC.out.bel
        have hLk := HL.out k hlt
        have HRow := hide hrow
        clear d0 hrow
        cases hA : A k with
        | none =>
          rw [hA] at HRow d1
          clear hA
          go_wp2
          go_roundw
          case rel => exact ⟨k + 1, _, by omega, by go_num, HC.out.nil hlt HRow.out, hsr⟩
          case measure => simp [intOf]; omega
        | some c =>
          rw [hA] at HRow d1
          clear hA
          obtain ⟨r1, r2, r3⟩ := HRow.out
          have r3' := hide (r3 c rfl)
          have hlen : Hid ((bc (S k)).length = L k) := r1
          clear HRow r1 r2 r3
          generalize hLk' : L k = m at *
          have HM := hide hLk'
          clear hLk'
          generalize hSk : S k = l at *
          have HSk := hide hSk
          clear hSk
          go_wp2_with (at_make; refine wpList_make_full _ rfl _ _ 22 rfl wo.heap.size 5 j0 (.int .u8 0) 1 Try.underlying22 ji jz0 jz1 _ _ _ _ m rfl rfl rfl rfl (by rw [jz2]; omega) (by unfold maxLen; omega) (Nat.le_refl _) ?_)
          intro w2 hown2 hgrow2
          have hbel2 : Below wo.heap.size wo w2 := (Below.refl _ _).grown hgrow2 (Nat.le_refl _) (by simp)
          have hown3 : w2.ownsRow wo.heap.size 5 1 (.slice (some ⟨wo.heap.size, 0, none⟩) m m) m (half (bc l) (.int .u8 0) 0) := by
            rw [half_zero, hlen.out]
            rwa [toList_madeCells_one] at hown2
          clear hown2 hgrow2
          have HO3 := hide hown3
          clear hown3
          go_wp2
          go_loopw [7] (fun i wq => ∃ q : Nat, q ≤ m ∧ i = .int .i64 q ∧ wq.ownsRow wo.heap.size 5 1 (.slice (some ⟨wo.heap.size, 0, none⟩) m m) m (half (bc l) (.int .u8 0) q) ∧ Below wo.heap.size wo wq) (fun i _ => m - (intOf i).toNat)
          case atStart => exact ⟨0, Nat.zero_le _, rfl, HO3.out, hbel2⟩
          case round =>
            obtain ⟨q, hq, rfl, hown, hb⟩ := hrel
            clear HO3 hbel2
            by_cases hlq : q < m
            · have hql : q < l.length := by have := hlen.out; rw [bc_length] at this; omega
              have hcs := bc_get hql
              have c1 := r3'.out q _ hcs
              have c2 : wr.cell? (c.add q) = some (.int .u8 (l.getD q 0).toNat) := (hb.cell (World.block_lt_of_cell? _ _ c1)).trans c1
              obtain ⟨v, hv⟩ := half_cell (bc l) (.int .u8 0) q (by rw [bc_length]; exact hql)
              have c3 : wr.cell? ⟨wo.heap.size, q, none⟩ = some v := (hown.cellAt q (by omega)).trans hv
              have c4 : wr.frozen? ⟨wo.heap.size, q, none⟩ = false := hown.frozenAt q
              have HR := hide (clone_step (Nat.le_refl _) hown hb hcs)
              clear hown hv c1 hcs hql d1
              generalize (l.getD q 0).toNat = x at *
              go_wp2
              go_roundw
              case rel => exact ⟨q + 1, by omega, by go_num, HR.out.1, HR.out.2⟩
              case measure => simp [intOf]; omega
            · have hqm : q = m := by omega
              have hown' : wr.ownsRow wo.heap.size 5 1 (.slice (some ⟨wo.heap.size, 0, none⟩) m m) m (bc l) := by
                have := half_all (bc l) (.int .u8 0)
                rw [hlen.out, ← hqm] at this
                rwa [this] at hown
              have hput : Cl w w.heap.size n (k + 1) L S (wr.setCell ⟨w.heap.size, k, none⟩ (.slice (some ⟨wo.heap.size, 0, none⟩) m m)) (fun r => if r = k then some ⟨wo.heap.size, 0, none⟩ else A' r) := by
                have h1 := hown'
                rw [← HM.out, ← HSk.out] at h1
                have h2 := HC.out.put hlt (Nat.le_refl _) hsr h1 hb
                rw [HM.out] at h2
                exact h2
              have HP := hide hput
              have o1 := owns_later HC.out.own hb
              have c3 : wr.cell? ⟨w.heap.size, k, none⟩ = some (.slice none 0 0) := by
                rw [o1.cellAt k (by omega), newCells_get A' L hlt, if_neg (by omega)]
              have c4 : wr.frozen? ⟨w.heap.size, k, none⟩ = false := o1.frozenAt k
              have hsz2 : w.heap.size < wr.heap.size := Nat.lt_of_lt_of_le hsr hb.size
              clear hown hown' hput o1 d1 hqm hb
              go_wp2
              go_roundw
              case rel => exact ⟨k + 1, _, by omega, by go_num, HP.out, by simpa using hsz2⟩
              case measure => simp [intOf]; omega
      · have hkn : Hid (k = n) := by have : k = n := by omega
                                     exact this
        go_wp2
        go_ret
        refine ⟨_, A', rfl, ?_, HC.out.bel⟩
        have := HC.out
        rw [hkn.out] at this
        exact this.names HS.out.big
end Go.Proofs.Qxb6601094a

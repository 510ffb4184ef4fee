/-
  FnAppendEscapeIsJSONEscape (function 5): the walk.
-/
import Derived.Test.Qxb6601094aClone
import Derived.Test.Qxb6601094aInjWalk
import Derived.Test.Qxb6601094aJsonLeaf
namespace Go.Proofs.Qxb6601094a
open Go.RowKit

theorem zz16_any (a : Option Addr) (n cap : Nat) (r : Int) (w : World) (hn : n ≤ maxLen) :
    Calls Try.prog 16 #[.slice a n cap, .int .i32 r] w fun e w' => e = .returned (.bool (decide (n ≤ 1048576))) ∧ w' = w := by
  unfold maxLen at hn
  by_cases h : n ≤ 1048576
  · have e : decide (n ≤ 1048576) = true := by simpa using h
    rw [e]
    clear e
    go_enter Try.func16, Try.ntmps16
    go_wp2
    go_ret
    exact ⟨rfl, rfl⟩
  · have e : decide (n ≤ 1048576) = false := by simpa using h
    rw [e]
    clear e
    go_enter Try.func16, Try.ntmps16
    go_wp2
    go_ret
    exact ⟨rfl, rfl⟩

theorem full_of_owns {w : World} {base n : Nat} {ao : Option Addr} {zs : List Int} (h : w.ownsRow base 5 1 (.slice ao n n) n (zs.map (.int .u8))) : Full w ao n zs := by
  have hl : zs.length = n := by have := h.1; simpa using this
  refine ⟨?_, hl, ?_⟩
  · rintro rfl
    obtain ⟨h0, ⟨h1, h2⟩ | ⟨g, c, cur, h1, _⟩⟩ := h
    · exact ⟨h2, h2⟩
    · simp at h1
  · rintro b rfl
    obtain ⟨h0, ⟨h1, h2⟩ | ⟨g, c, cur, h1, h2, h3, h4⟩⟩ := h
    · simp at h1
    · simp only [Value.slice.injEq, Option.some.injEq] at h1
      obtain ⟨rfl, _, rfl⟩ := h1
      have hlt := (Array.getElem?_eq_some_iff.1 h3).1
      refine ⟨hlt, fun j hj => ?_⟩
      have hown : w.ownsRow base 5 1 (.slice (some ⟨g, 0, none⟩) n n) n (zs.map (.int .u8)) := ⟨h0, .inr ⟨g, n, cur, rfl, h2, h3, h4⟩⟩
      refine hown.cells (g := g) rfl j _ ?_
      have : j < zs.length := by omega
      simp [List.getD_eq_getElem?_getD, List.getElem?_eq_getElem this]

/-- What the rest of the law reads: the copy, and the row that the escape was appended to. -/
theorem json_shape {w1 w2 : World} {base n : Nat} {ao1 : Option Addr} {v2 : Value} {zs E : List Int} (own1 : w1.ownsRow base 5 1 (.slice ao1 n n) n (zs.map (.int .u8))) (bel2 : Below w1.heap.size w1 w2)
    (own2 : w2.ownsRow w1.heap.size 5 1 v2 (n + E.length) ((zs ++ E).map (.int .u8))) (hE : 2 ≤ E.length) :
    ∃ g cap2, v2 = .slice (some ⟨g, 0, none⟩) (n + E.length) cap2 ∧ n + E.length ≤ cap2 ∧ cap2 ≤ maxLen ∧ g < w2.heap.size ∧
      (∀ j, j < n → w2.cell? ⟨g, j, none⟩ = some (.int .u8 (zs.getD j 0))) ∧ (∀ j, j < E.length → w2.cell? ⟨g, n + j, none⟩ = some (.int .u8 (E.getD j 0))) ∧
      ((ao1 = none ∧ Hid (n ≤ 0)) ∨ ∃ g1, ao1 = some ⟨g1, 0, none⟩ ∧ g1 < w2.heap.size ∧ ∀ j, j < n → w2.cell? ⟨g1, j, none⟩ = some (.int .u8 (zs.getD j 0))) := by
  have hl : zs.length = n := by have := own1.1; simpa using this
  obtain ⟨g, cap2, rfl, hg, hg', hl2, hc, hm, cell⟩ := owns_shape own2 (by omega)
  refine ⟨g, cap2, rfl, hc, hm, hg', ?_, ?_, ?_⟩
  · intro j hj
    rw [cell j (by omega), List.getD_eq_getElem?_getD, List.getElem?_append_left (by omega), List.getD_eq_getElem?_getD]
  · intro j hj
    rw [cell (n + j) (by omega), List.getD_eq_getElem?_getD, List.getElem?_append_right (by omega), List.getD_eq_getElem?_getD, hl, Nat.add_sub_cancel_left]
  · have hf := full_of_owns own1
    cases ao1 with
    | none => exact .inl ⟨rfl, Nat.le_of_eq (hf.1 rfl).1⟩
    | some b =>
      right
      obtain ⟨h0, ⟨h1, h2⟩ | ⟨g1, c, cur, h1, h2, h3, h4⟩⟩ := own1
      · simp at h1
      · simp only [Value.slice.injEq, Option.some.injEq] at h1
        obtain ⟨rfl, _, rfl⟩ := h1
        obtain ⟨hlt, hcell⟩ := hf.2.2 _ rfl
        have hlt' : g1 < w1.heap.size := hlt
        refine ⟨g1, rfl, Nat.lt_of_lt_of_le hlt' bel2.size, fun j hj => ?_⟩
        have := hcell j hj
        rw [show (⟨g1, 0, none⟩ : Addr).add j = ⟨g1, j, none⟩ by unfold Addr.add; split <;> simp_all] at this
        exact (bel2.cell (by exact hlt')).trans this

set_option maxHeartbeats 400000 in
theorem json_main (ao : Option Addr) (n cap : Nat) (zs : List Int) (r : Int) (w : World) (hs : Src w ao n (zs.map (.int .u8))) (hn : n ≤ 1048576) :
    Calls Try.prog 5 #[.slice ao n cap, .int .i32 r] w fun e w' => e = .returned (.bool true) ∧ Below w.heap.size w w' := by
  have hd : decide (n ≤ 1048576) = true := by simpa using hn
  go_enter Try.func5, Try.ntmps5
  go_wp2_with fail
  refine (zz16_any ao n cap r _ (by unfold maxLen; omega)).mono ?_
  rw [hd]
  rintro e w' ⟨rfl, hw⟩
  have hw' := hw.symm
  subst hw'
  clear hd
  go_wp2_with fail
  refine (aeClone_any ao n cap zs _ hs hn).mono ?_
  rintro e w1 ⟨ao1, rfl, own1, bel1⟩
  go_wp2_with fail
  refine (ZZappendEscape_any ao1 n zs r _ (full_of_owns own1) hn).mono ?_
  rintro e w2 ⟨v2, rfl, own2, bel2⟩
  have hE2 : 2 ≤ (esc r).length ∧ (esc r).length ≤ 6 := by rcases esc_len r with h | h <;> omega
  obtain ⟨hE2, hE6⟩ := hE2
  obtain ⟨g, cap2, hv2, hcap, hmax, hg, cellA, cellB, hao⟩ := json_shape own1 bel2 own2 hE2
  rw [hv2]
  have hbel : Hid (Below w.heap.size w w2) := bel1.trans (bel2.mono bel1.size)
  clear own1 own2 bel1 bel2 hs hv2
  unfold maxLen at hmax
  have hfin : Hid ((shortOf r ≠ 0 ∧ esc r = [92, shortOf r]) ∨ (shortOf r = 0 ∧ (esc r).length = 6 ∧ (esc r).getD 0 0 = 92 ∧ (esc r).getD 1 0 = 117 ∧ ∀ k, k < 4 → (esc r).getD (2 + k) 0 = hexd (dgt r k))) := by
    refine hide ?_
    by_cases hz : shortOf r = 0
    · right
      have := esc_long hz
      exact ⟨hz, by rw [this]; rfl, by rw [this]; rfl, by rw [this]; rfl, fun k hk => esc_digit hz k hk⟩
    · exact .inl ⟨hz, esc_short hz⟩
  generalize esc r = E at *
  generalize hm : E.length = m at *
  have HM := hide hm
  clear hm
  rcases hao with ⟨rfl, hn0⟩ | ⟨g1, rfl, hg1, cellC⟩
  all_goals
    go_wp2
    go_loopw [6] (fun i wr => ∃ k : Nat, k ≤ n ∧ i = .int .i64 k ∧ Below w2.heap.size w2 wr) (fun i _ => n - (intOf i).toNat)
    case atStart => exact ⟨0, Nat.zero_le _, rfl, Below.refl _ _⟩
    case round =>
      obtain ⟨k, hk, rfl, hb⟩ := hrel
      by_cases hlt : k < n
      · first
        | (exfalso; have := hn0.out; omega)
        | (have d1 : wr.cell? ⟨g, k, none⟩ = some (.int .u8 (zs.getD k 0)) := (hb.cell (by exact hg)).trans (cellA k hlt)
           have d2 : wr.cell? ⟨g1, k, none⟩ = some (.int .u8 (zs.getD k 0)) := (hb.cell (by exact hg1)).trans (cellC k hlt)
           clear cellA cellB cellC
           generalize zs.getD k 0 = x at *
           go_wp2
           go_quiet (fail)
           go_wp2
           go_roundw
           case rel => exact ⟨k + 1, by omega, by go_num, below_drewN hb _⟩
           case measure => simp [intOf]; omega)
      · have bb : ∀ j, j < m → wr.cell? ⟨g, n + j, none⟩ = some (.int .u8 (E.getD j 0)) := fun j hj => (hb.cell (by exact hg)).trans (cellB j hj)
        have hbel' : Hid (Below w.heap.size w wr) := hbel.out.trans (hb.mono hbel.out.size)
        try clear cellC
        clear cellA cellB hb
        rcases hfin.out with ⟨hz, hE⟩ | ⟨hz, hm6, hE0, hE1, hEd⟩
        · have b0 : wr.cell? ⟨g, n, none⟩ = some (.int .u8 92) := by have := bb 0 (by omega); rw [hE] at this; exact this
          have b1 : wr.cell? ⟨g, n + 1, none⟩ = some (.int .u8 (shortOf r)) := by have := bb 1 (by omega); rw [hE] at this; exact this
          have hm2 : m ≤ 2 := by have := HM.out; rw [hE] at this; simp at this; omega
          have hz' : (shortOf r == 0) = false := by simpa using hz
          clear bb hfin hE hz HM
          go_wp2_with (go_at_call 19; refine (aeShort_any r _).mono ?_; rintro e w3 ⟨rfl, hw3⟩; have hw4 := hw3.symm; subst hw4; clear hw3)
          go_ret
          exact ⟨by simp, hbel'.out⟩
        · have b0 : wr.cell? ⟨g, n, none⟩ = some (.int .u8 92) := by have := bb 0 (by omega); rw [hE0] at this; exact this
          have b1 : wr.cell? ⟨g, n + 1, none⟩ = some (.int .u8 117) := by have := bb 1 (by omega); rw [hE1] at this; exact this
          have HB : Hid (∀ k, k < 4 → wr.cell? ⟨g, n + (2 + k), none⟩ = some (.int .u8 (hexd (dgt r k)))) := fun k hk => by have := bb (2 + k) (by omega); rw [hEd k hk] at this; exact this
          have hm6' : 6 ≤ m := by omega
          have hz' : (shortOf r == 0) = true := by simpa using hz
          clear bb hfin hz HM hm6 hE0 hE1 hEd
          go_wp2_with (go_at_call 19; refine (aeShort_any r _).mono ?_; rintro e w3 ⟨rfl, hw3⟩; have hw4 := hw3.symm; subst hw4; clear hw3)
          go_loop [9, 10, 11, 12] (fun v i _ _ => ∃ p : Nat, 2 ≤ p ∧ p ≤ 6 ∧ i = .int .i64 p ∧ v = .int .u32 (val r (p - 2))) (fun _ i _ _ => 6 - (intOf i).toNat)
          case atStart => exact ⟨2, by omega, by omega, rfl, rfl⟩
          case round =>
            obtain ⟨p, hp2, hp6, rfl, rfl⟩ := hrel
            have hv := val_bd r (p - 2)
            obtain ⟨hv0, hv1⟩ := hv
            by_cases hlt2 : p < 6
            · have hd := dgt_bd r (p - 2)
              obtain ⟨hd0, hd1⟩ := hd
              have hc : wr.cell? ⟨g, n + p, none⟩ = some (.int .u8 (hexd (dgt r (p - 2)))) := by have := HB.out (p - 2) (by omega); rw [show 2 + (p - 2) = p by omega] at this; exact this
              have hs : Hid (val r (p + 1 - 2) = val r (p - 2) * 16 + dgt r (p - 2)) := by have := val_succ r (p - 2) (by omega); rw [show p - 2 + 1 = p + 1 - 2 by omega] at this; exact this
              clear b0 b1
              generalize val r (p - 2) = x at *
              generalize dgt r (p - 2) = d at *
              go_wp2_with (go_at_call 20; refine (aeHex_any d _ hd0 hd1).mono ?_; rintro e w3 ⟨rfl, hw3⟩; have hw4 := hw3.symm; subst hw4; clear hw3)
              go_round
              case rel => exact ⟨p + 1, by omega, by omega, by go_num, by rw [hs.out]⟩
              case measure => simp [intOf]; omega
            · have hpv : Hid (val r (p - 2) = r % 65536) := by have : p = 6 := by omega
                                                               subst this; rfl
              have ha := and65535 r
              go_wp2
              go_ret
              refine ⟨?_, hbel'.out⟩
              show Ending.returned (.bool (val r (p - 2) == r % 65536)) = _
              rw [hpv.out]
              simp

theorem json_walk (ao : Option Addr) (n cap : Nat) (zs : List Int) (r : Int) (w : World) (hs : Src w ao n (zs.map (.int .u8))) (hm : n ≤ maxLen) :
    Calls Try.prog 5 #[.slice ao n cap, .int .i32 r] w fun e w' => e = .returned (.bool true) ∧ Below w.heap.size w w' := by
  by_cases hn : n ≤ 1048576
  · exact json_main ao n cap zs r w hs hn
  · have hd : decide (n ≤ 1048576) = false := by simpa using hn
    go_enter Try.func5, Try.ntmps5
    go_wp2_with fail
    refine (zz16_any ao n cap r _ hm).mono ?_
    rw [hd]
    rintro e w' ⟨rfl, hw⟩
    have hw' := hw.symm
    subst hw'
    clear hd hw
    go_wp2
    go_ret
    exact ⟨rfl, Below.refl _ _⟩
end Go.Proofs.Qxb6601094a

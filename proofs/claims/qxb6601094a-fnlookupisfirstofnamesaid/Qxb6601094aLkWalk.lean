/-
  FnLookupIsFirstOfName (7): the walk.
-/
import Derived.Test.Qxb6601094aZZLookup
import Derived.Test.Qxb6601094aLkClone
namespace Go.Proofs.Qxb6601094a
open Go.RowKit
set_option linter.unusedVariables false

set_option maxHeartbeats 400000 in
theorem lk_walk (ao : Option Addr) (n cap : Nat) (A : Nat → Option Addr) (L C : Nat → Nat) (S : Nat → List UInt8) (s : ByteArray) (w : World) (hs : Names w ao n A L C S) (hn : n ≤ maxLen) (hl : s.size ≤ maxLen) :
    Calls Try.prog 7 #[.slice ao n cap, .string s] w fun e w' => e = .returned (.bool true) ∧ Below w.heap.size w w' := by
  have HS := hide hs
  clear hs
  go_enter Try.func7, Try.ntmps7
  go_wp2_with fail
  refine (zz21_any ao n cap A L C S s _ HS.out hn hl).mono ?_
  rintro e w0 ⟨b1, rfl, hw, hb1⟩
  have hw' := hw.symm
  subst hw'
  clear hw
  cases b1 with
  | false =>
    clear hb1
    go_wp2
    go_ret
    exact ⟨rfl, Below.refl _ _⟩
  | true =>
    have hz := hide (hb1 rfl)
    clear hb1
    go_wp2_with fail
    refine (lkTooBig_any ao n cap A L C S s _ HS.out hz.out).mono ?_
    rintro e w0 ⟨b2, rfl, hw, hb2⟩
    have hw' := hw.symm
    subst hw'
    clear hw
    cases b2 with
    | true =>
      clear hb2
      go_wp2
      go_ret
      exact ⟨rfl, Below.refl _ _⟩
    | false =>
      have hf := hb2 rfl
      have hn6 : n ≤ 65536 := hf
      have hs6 : s.size ≤ 1048576 := hz.out.2.1
      clear hb2 hf hn hl
      go_wp2_with fail
      refine (lkClone_any ao n cap A L C S _ HS.out hn6 hz.out.2.2).mono ?_
      rintro e w1 ⟨ao1, A1, rfl, hN1, hb1⟩
      have HN1 := hide hN1
      clear hN1
      go_wp2_with fail
      refine (ZZLookup_any ao1 n n A1 L L S s _ HN1.out (by omega)).mono ?_
      rintro e w2 ⟨x, rfl, hx, hb2⟩
      have HN2 := hide (HN1.out.later hb2)
      have hbel : Below w.heap.size w w2 := hb1.trans (hb2.mono hb1.size)
      have HL := hide hz.out.2.2
      clear HN1 hb1 hb2 HS hz
      rcases hx with ⟨hx, hno⟩ | ⟨r, hx, hr, hyes, hno⟩
      · rw [hx]
        have HNo := hide hno
        clear hno hx
        cases hao : ao1 with
        | none =>
          have hn0 := hide (HN2.out.none hao)
          clear hao
          go_wp2
          go_loop [7] (fun i => ∃ k : Nat, k ≤ n ∧ i = .int .i64 k) (fun i => n - (intOf i).toNat)
          case atStart => exact ⟨0, Nat.zero_le _, rfl⟩
          case round =>
            obtain ⟨k, hk, rfl⟩ := hrel
            have hlt : ¬ k < n := by have := hn0.out; omega
            go_wp2
            go_ret
            exact ⟨rfl, hbel⟩
        | some b =>
          have hcell := hide (HN2.out.cell b hao)
          clear hao
          go_wp2
          go_loopw [7] (fun i wr => ∃ k : Nat, k ≤ n ∧ i = .int .i64 k ∧ Below w2.heap.size w2 wr) (fun i _ => n - (intOf i).toNat)
          case atStart => exact ⟨0, Nat.zero_le _, rfl, Below.refl _ _⟩
          case round =>
            obtain ⟨k, hk, rfl, hb⟩ := hrel
            by_cases hlt : k < n
            · have d0 := hcell.out k hlt
              have d1 := (hb.cell (World.block_lt_of_cell? _ _ d0)).trans d0
              have hsr := hide ((HN2.out.row k hlt).later hb)
              have hLk := HL.out k hlt
              have hsm := HNo.out k hlt
              clear d0
              go_wp2_with fail
              refine (lkSame_any (A1 k) (L k) (L k) (S k) s _ hsr.out hLk hs6).mono ?_
              rw [hsm]
              rintro e w3 ⟨rfl, hb3⟩
              have hb4 : Below w2.heap.size w2 w3 := hb.trans (hb3.mono hb.size)
              clear d1 hsr hsm hb3
              go_wp2
              go_roundw
              case rel => exact ⟨k + 1, by omega, by go_num, hb4⟩
              case measure => simp [intOf]; omega
            · go_wp2
              go_ret
              exact ⟨rfl, hbel.trans (hb.mono hbel.size)⟩
      · rw [hx]
        have HNo := hide hno
        clear hno hx
        cases hao : ao1 with
        | none => exact absurd (HN2.out.none hao) (by omega)
        | some b =>
          have hcell := hide (HN2.out.cell b hao)
          clear hao
          have d0 := hcell.out r hr
          have hLr := HL.out r hr
          have hsr := hide (HN2.out.row r hr)
          go_wp2_with fail
          refine (lkSame_any (A1 r) (L r) (L r) (S r) s _ hsr.out hLr hs6).mono ?_
          rw [hyes]
          rintro e w3 ⟨rfl, hb3⟩
          clear d0 hsr hyes
          have h1 : ((r : Int) == -1) = false := by rw [beq_eq_false_iff_ne]; omega
          go_wp2
          go_loopw [7] (fun i wr => ∃ k : Nat, k ≤ r ∧ i = .int .i64 k ∧ Below w2.heap.size w2 wr) (fun i _ => r - (intOf i).toNat)
          case atStart => exact ⟨0, Nat.zero_le _, rfl, hb3⟩
          case round =>
            obtain ⟨k, hk, rfl, hb⟩ := hrel
            by_cases hlt : k < r
            · have hltn : k < n := by omega
              have d0 := hcell.out k hltn
              have d1 := (hb.cell (World.block_lt_of_cell? _ _ d0)).trans d0
              have hsr := hide ((HN2.out.row k hltn).later hb)
              have hLk := HL.out k hltn
              have hsm := HNo.out k hlt
              clear d0
              go_wp2_with fail
              refine (lkSame_any (A1 k) (L k) (L k) (S k) s _ hsr.out hLk hs6).mono ?_
              rw [hsm]
              rintro e w3 ⟨rfl, hb3⟩
              have hb4 : Below w2.heap.size w2 w3 := hb.trans (hb3.mono hb.size)
              clear d1 hsr hsm hb3
              go_wp2
              go_roundw
              case rel => exact ⟨k + 1, by omega, by go_num, hb4⟩
              case measure => simp [intOf]; omega
            · go_wp2
              go_ret
              exact ⟨rfl, hbel.trans (hb.mono hbel.size)⟩
end Go.Proofs.Qxb6601094a

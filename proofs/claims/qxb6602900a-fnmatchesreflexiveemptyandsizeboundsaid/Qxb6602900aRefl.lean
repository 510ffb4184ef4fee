/-
  FnMatchesReflexiveEmptyAndSizeBound (4): the walk.
-/
import Derived.Test.Qxb6602900aSizeLaw
namespace Go.Proofs.Qxb6602900a
open Go.RowKit Go.Maps
set_option linter.unusedVariables false

set_option maxRecDepth 100000 in
set_option maxHeartbeats 1000000 in
theorem refl_walk (a0 a1 a2 a3 : Option Addr) (n0 n1 n2 n3 c0 c1 c2 c3 : Nat) (X0 X1 X2 X3 : Nat → ByteArray) (w : World) (t0 : Texts w a0 n0 X0) (t1 : Texts w a1 n1 X1) (t2 : Texts w a2 n2 X2) (t3 : Texts w a3 n3 X3)
    (m0 : ∀ r, r < n0 → (X0 r).size ≤ maxLen) (m1 : ∀ r, r < n1 → (X1 r).size ≤ maxLen) (m2 : ∀ r, r < n2 → (X2 r).size ≤ maxLen) (m3 : ∀ r, r < n3 → (X3 r).size ≤ maxLen)
    (l0 : n0 ≤ maxLen) (l1 : n1 ≤ maxLen) (l2 : n2 ≤ maxLen) (l3 : n3 ≤ maxLen) :
    Calls Try.prog 4 #[.slice a0 n0 c0, .slice a1 n1 c1, .slice a2 n2 c2, .slice a3 n3 c3] w fun e w' => e = .returned (.bool true) ∧ Below w.heap.size w w' := by
  have hmm := @run_makeMap Try.prog
  have M0' : Hid (∀ r, r < n0 → (X0 r).size ≤ 9223372036854775807) := fun r hr => by have := m0 r hr; unfold maxLen at this; omega
  have M0 := hide m0
  have T0 := hide t0
  have M1' : Hid (∀ r, r < n1 → (X1 r).size ≤ 9223372036854775807) := fun r hr => by have := m1 r hr; unfold maxLen at this; omega
  have M1 := hide m1
  have T1 := hide t1
  have M2' : Hid (∀ r, r < n2 → (X2 r).size ≤ 9223372036854775807) := fun r hr => by have := m2 r hr; unfold maxLen at this; omega
  have M2 := hide m2
  have T2 := hide t2
  have M3' : Hid (∀ r, r < n3 → (X3 r).size ≤ 9223372036854775807) := fun r hr => by have := m3 r hr; unfold maxLen at this; omega
  have M3 := hide m3
  have T3 := hide t3
  unfold maxLen at l0 l1 l2 l3
  clear t0 t1 t2 t3 m0 m1 m2 m3
  go_enter Try.func4, Try.ntmps4
  go_wp2_with fail
  refine (zz12_any a0 a1 a2 a3 n0 n1 n2 n3 c0 c1 c2 c3 X0 X1 X2 X3 _ T0.out T1.out T2.out T3.out M0'.out M1'.out M2'.out M3'.out (by omega) (by omega) (by omega) (by omega)).mono ?_
  rintro e w0 ⟨b1, rfl, hw⟩
  have hw' := hw.symm
  subst hw'
  clear hw
  cases b1 with
  | false =>
    go_wp2
    go_ret
    exact ⟨rfl, Below.refl _ _⟩
  | true =>
    by_cases b0 : n0 ≤ 4096
    case neg =>
      go_wp2
      go_ret
      exact ⟨rfl, Below.refl _ _⟩
    by_cases b1 : n1 ≤ 4096
    case neg =>
      go_wp2
      go_ret
      exact ⟨rfl, Below.refl _ _⟩
    by_cases b2 : n2 ≤ 4096
    case neg =>
      go_wp2
      go_ret
      exact ⟨rfl, Below.refl _ _⟩
    by_cases b3 : n3 ≤ 4096
    case neg =>
      go_wp2
      go_ret
      exact ⟨rfl, Below.refl _ _⟩
    go_wp2_with fail
    refine (strBytes_any a0 n0 c0 X0 _ T0.out M0'.out (by omega)).mono ?_
    rintro e w0 ⟨y0, rfl, hw, hy0, hz0⟩
    have hw' := hw.symm
    subst hw'
    clear hw
    go_wp2_with fail
    refine (strBytes_any a1 n1 c1 X1 _ T1.out M1'.out (by omega)).mono ?_
    rintro e w0 ⟨y1, rfl, hw, hy1, hz1⟩
    have hw' := hw.symm
    subst hw'
    clear hw
    go_wp2_with fail
    refine (strBytes_any a2 n2 c2 X2 _ T2.out M2'.out (by omega)).mono ?_
    rintro e w0 ⟨y2, rfl, hw, hy2, hz2⟩
    have hw' := hw.symm
    subst hw'
    clear hw
    go_wp2_with fail
    refine (strBytes_any a3 n3 c3 X3 _ T3.out M3'.out (by omega)).mono ?_
    rintro e w0 ⟨y3, rfl, hw, hy3, hz3⟩
    have hw' := hw.symm
    subst hw'
    clear hw
    by_cases hsum : y0 + y1 + y2 + y3 ≤ 1048576
    case neg =>
      go_wp2
      go_ret
      exact ⟨rfl, Below.refl _ _⟩
    by_cases e01 : n0 = n1
    case neg =>
      have e01' : ((n0 : Int) != (n1 : Int)) = true := by rw [bne_iff_ne]; omega
      go_wp2
      go_ret
      exact ⟨rfl, Below.refl _ _⟩
    by_cases e23 : n2 = n3
    case neg =>
      have e01' : ((n0 : Int) != (n1 : Int)) = false := by rw [bne_eq_false_iff_eq]; omega
      have e23' : ((n2 : Int) != (n3 : Int)) = true := by rw [bne_iff_ne]; omega
      clear e01
      go_wp2
      go_ret
      exact ⟨rfl, Below.refl _ _⟩
    subst e01 e23
    go_wp2_with fail
    refine (copy_any a0 n0 c0 X0 _ T0.out (by omega)).mono ?_
    rintro e w1 ⟨o0, rfl, u0, g0⟩
    go_wp2_with fail
    refine (copy_any a1 n0 c1 X1 _ (T1.out.later g0) (by omega)).mono ?_
    rintro e w2 ⟨o1, rfl, u1, g1⟩
    have gg1 : Below w.heap.size w w2 := g0.trans (g1.mono g0.size)
    have U0 := hide (u0.later g1)
    have U1 := hide u1
    clear u0 u1 g0 g1
    go_wp2_with fail
    refine (copy_any a2 n2 c2 X2 _ (T2.out.later gg1) (by omega)).mono ?_
    rintro e w3 ⟨o2, rfl, u2, g2⟩
    have gg2 : Below w.heap.size w w3 := gg1.trans (g2.mono gg1.size)
    have V0 := hide (U0.out.later g2)
    have V1 := hide (U1.out.later g2)
    clear U0 U1 gg1
    go_wp2_with fail
    refine (copy_any a3 n2 c3 X3 _ (T3.out.later gg2) (by omega)).mono ?_
    rintro e w4 ⟨o3, rfl, u3, g3⟩
    have gg3 : Below w.heap.size w w4 := gg2.trans (g3.mono gg2.size)
    have U0 := hide (V0.out.later g3)
    have U1 := hide (V1.out.later g3)
    have U2 := hide (u2.later g3)
    have U3 := hide u3
    clear V0 V1 u2 u3 g2 g3 gg2 T0 T1 T2 T3
    go_wp2_with fail
    refine (build_any o0 o1 n0 n0 n0 X0 X1 _ U0.out U1.out b0 M0.out M1.out).mono ?_
    rintro e w5 ⟨v, I, rfl, hI, g4⟩
    have gg4 : Below w.heap.size w w5 := gg3.trans (g4.mono gg3.size)
    have V2 := hide (U2.out.later g4)
    have V3 := hide (U3.out.later g4)
    have HI5 := hide hI
    clear U0 U1 U2 U3 hI g4 gg3
    go_wp2_with fail
    refine (build_any o2 o3 n2 n2 n2 X2 X3 _ V2.out V3.out b2 M2.out M3.out).mono ?_
    rintro e w6 ⟨u, W, rfl, hW, g5⟩
    have gg5 : Below w.heap.size w w6 := gg4.trans (g5.mono gg4.size)
    have HI := hide (HI5.out.later g5)
    have HW := hide hW
    clear V2 V3 HI5 hW g5 gg4
    go_wp2_with fail
    refine (ZZmatch_any v v I I _ HI.out HI.out).mono ?_
    rintro e w7 ⟨b, rfl, hb, g6⟩
    have hbt := answers_self hb
    subst hbt
    have gg6 : Below w.heap.size w w7 := gg5.trans (g6.mono gg5.size)
    have HI7 := hide (HI.out.later g6)
    have HW7 := hide (HW.out.later g6)
    clear hb g6 gg5 HI HW
    go_wp2_with fail
    refine (ZZmatch_any v (.map none) I (.map []) _ HI7.out (mapIs_nil _)).mono ?_
    rintro e w8 ⟨b, rfl, hb, g7⟩
    have hbt := answers_none hb
    subst hbt
    have gg7 : Below w.heap.size w w8 := gg6.trans (g7.mono gg6.size)
    have HI := hide (HI7.out.later g7)
    have HW := hide (HW7.out.later g7)
    clear hb g7 gg6 HI7 HW7
    go_wp2_with fail
    have ga : Below w8.heap.size w8 (w8.alloc (.map #[] 0)) := (Below.refl _ _).alloc (Nat.le_refl _) _
    refine (ZZmatch_any v (.map (some w8.heap.size)) I (.map []) _ (HI.out.later ga) (mapIs_made w8)).mono ?_
    rintro e w9 ⟨b, rfl, hb, g8⟩
    have hbt := answers_none hb
    subst hbt
    have ga9 : Below w8.heap.size w8 w9 := ga.trans (g8.mono ga.size)
    have gg8 : Below w.heap.size w w9 := gg7.trans (ga9.mono gg7.size)
    have HI9 := hide (HI.out.later ga9)
    have HW9 := hide (HW.out.later ga9)
    clear hb g8 gg7 HI HW ga ga9
    go_wp2_with fail
    refine (ZZmatch_any (.map none) u (.map []) W _ (mapIs_nil _) HW9.out).mono ?_
    rintro e w10 ⟨b, rfl, hb, g9⟩
    have hbt := answers_nil HW9.out hb
    have gg9 : Below w.heap.size w w10 := gg8.trans (g9.mono gg8.size)
    have HI := hide (HI9.out.later g9)
    have HW := hide (HW9.out.later g9)
    clear hb g9 gg8 HI9 HW9
    have s1 := size_bound HI.out
    have s2 := size_bound HW.out
    have hneq : (!b == ((Maps.size W : Int) == 0)) = false := by
      rw [hbt]
      cases h : Maps.size W with
      | zero => rfl
      | succ m =>
        have h1 : (((m + 1 : Nat) : Int) == 0) = false := by rw [beq_eq_false_iff_ne]; omega
        rw [h1]
        rfl
    clear hbt
    go_wp2_with (at_len; refine wpList_len_map _ _ rfl rfl _ W rfl HW.out ?_)
    refine (ZZmatch_any v u I W _ HI.out HW.out).mono ?_
    rintro e w11 ⟨b5, rfl, hb, g10⟩
    have gg10 : Below w.heap.size w w11 := gg9.trans (g10.mono gg9.size)
    have HI11 := hide (HI.out.later g10)
    have HW11 := hide (HW.out.later g10)
    cases b5 with
    | false =>
      clear hb g10 HI HW HI11 HW11 hneq gg9
      go_wp2
      go_ret
      exact ⟨rfl, gg10⟩
    | true =>
      have hle := size_le_of_has HI.out HW.out (hb.1 rfl)
      clear hb g10 HI HW hneq gg9
      go_wp2_with (first | (at_len; refine wpList_len_map _ (.tmp 94) rfl rfl _ W rfl HW11.out ?_) | (at_len; refine wpList_len_map _ (.tmp 96) rfl rfl _ I rfl HI11.out ?_))
      go_ret
      exact ⟨rfl, gg10⟩
end Go.Proofs.Qxb6602900a

/-
  FnSkipContainerInnerValues (4): the walk.
-/
import Derived.Test.Qxb6601094aEnds
namespace Go.Proofs.Qxb6601094a
open Go.RowKit
set_option linter.unusedVariables false

theorem cntB_cases {k : Int} (h : 0 ≤ cntB k) : ((k % 6 = 1 ∨ k % 6 = 2) ∧ cntB k = 2) ∨ (k % 6 = 3 ∧ cntB k = 0) := by
  unfold cntB at h ⊢
  split
  · rename_i a; exact .inl ⟨a, rfl⟩
  · rename_i a
    rw [if_neg a] at h
    split
    · rename_i b; exact .inr ⟨b, rfl⟩
    · rename_i b
      rw [if_neg b] at h
      omega

theorem cntB_bd (k : Int) : -1 ≤ cntB k ∧ cntB k ≤ 2 := by
  unfold cntB
  split
  · omega
  · split <;> omega

/-- The scan of a member that is a container itself. -/
theorem inner_calls {B g n cap kn i P Q : Nat} {w : World} (pre : List Int) (K : Nat → Int) (T : Nat → List Int) (obj : Bool) (sp : Int) (post : List Int) (hT : ∀ i, ∀ c ∈ T i, 0 ≤ c)
    (hd : Dat 5 .u8 B w (some ⟨g, 0, none⟩) n cap (text pre K T obj sp kn ++ [closing obj] ++ post)) (hn : n ≤ 70000000000000) (hi : i < kn)
    (h1 : P = (text pre K T obj sp i ++ memPre T obj sp i).length) (h2 : Q = (text pre K T obj sp i ++ memPre T obj sp i ++ valB (K i) (T i) sp).length) (hc : 0 ≤ cntB (K i)) :
    Calls Try.prog 14 #[.slice (some ⟨g, 0, none⟩) n cap, .int .i64 P] w fun e w' => e = .returned (.tuple #[.int .i64 (Q : Int), .int .i64 (cntB (K i))]) ∧ w' = w := by
  have hcl := cells_of_dat hd
  have hl := hd.2.1
  obtain ⟨R, hR⟩ := value_at pre K T obj sp hi ([closing obj] ++ post)
  rw [← List.append_assoc] at hR
  rcases cntB_cases hc with ⟨hk, he⟩ | ⟨hk, he⟩
  · obtain ⟨g1, g2, g3⟩ := inner_some hk hR
    have hinv := inner_inv hk (hT i) hR
    rw [hl] at g3
    rw [← h1] at g1 g2 g3 hinv
    rw [← h2] at hinv
    rw [he]
    exact ZZskip (skipContainer_some g n cap _ R P (spc sp).length Q _ w hcl hn g1 (by rw [g2]; decide) (by rw [g2]; decide) (by rw [g2]; decide) g3 hinv)
  · obtain ⟨c, hcc, g1, g2, g3, g4⟩ := inner_none hk hR
    rw [hl] at g3
    rw [← h1] at g1 g2 g3 g4
    rw [← h2] at g4
    rw [he]
    exact ZZskip (skipContainer_none g n cap _ P (spc sp).length w hcl hn g1 (by rw [g2]; exact hcc) g3 Q g4)

theorem getD_map_range (f : Nat → Int) (n i : Nat) (h : i < n) : ((List.range n).map f).getD i 0 = f i := by
  rw [List.getD_eq_getElem?_getD, List.getElem?_map, List.getElem?_range h]
  rfl

set_option maxRecDepth 100000 in
set_option maxHeartbeats 1000000 in
theorem inner_walk (pre post : ByteArray) (ko : Option Addr) (kn kcap : Nat) (ks : List Int) (to : Option Addr) (tn tcap : Nat) (X : Nat → ByteArray) (obj : Bool) (sp : Int) (w : World) (hk : Src w ko kn (ks.map (.int .u8))) (hkb : ∀ i, 0 ≤ ks.getD i 0 ∧ ks.getD i 0 < 256)
    (ht : Texts w to tn X) (h1 : pre.size ≤ maxLen) (h2 : kn ≤ maxLen) (h3 : tn ≤ maxLen) (h4 : ∀ r, r < tn → (X r).size ≤ maxLen) (h5 : post.size ≤ maxLen) :
    Calls Try.prog 4 #[.string pre, .slice ko kn kcap, .slice to tn tcap, .bool obj, .int .u8 sp, .string post] w fun e w' => e = .returned (.bool true) ∧ Below w.heap.size w w' := by
  have HK := hideA hk
  have HKB := hideA hkb
  have HT := hideA ht
  clear hk hkb ht
  go_enter Try.func4, Try.ntmps4
  go_wp2_with fail
  refine (zz15_any pre post ko kn kcap to tn tcap X obj sp _ HT.out h1 h2 h3 h4 h5).mono ?_
  rintro e w0 ⟨b1, rfl, hw, hb1⟩
  have hw' := hw.symm
  subst hw'
  clear hw h1 h2 h3 h4 h5
  cases b1 with
  | false =>
    clear hb1
    go_wp2
    go_ret
    exact ⟨rfl, Below.refl _ _⟩
  | true =>
    have HZ := hideA (hb1 rfl)
    clear hb1
    go_wp2_with fail
    refine (sbTooBig_any pre post ko kn kcap to tn tcap X _ HT.out HZ.out).mono ?_
    rintro e w0 ⟨b2, rfl, hw, hb2⟩
    have hw' := hw.symm
    subst hw'
    clear hw hb2
    cases b2 with
    | true =>
      go_wp2
      go_ret
      exact ⟨rfl, Below.refl _ _⟩
    | false =>
      go_wp2_with fail
      refine (sbCloneBytes_any ko kn kcap ks _ HK.out HZ.out.2.1).mono ?_
      rintro e w1 ⟨ko1, rfl, hown1, hb1⟩
      have HO1 := hideA hown1
      clear hown1
      go_wp2_with fail
      refine (sbCloneStrings_any to tn tcap X _ (HT.out.later hb1) HZ.out.2.2.1).mono ?_
      rintro e w2 ⟨to1, rfl, htx, hb2⟩
      have HX := hideA htx
      have HK2 := hideA ((owns_src HO1.out).later hb2)
      have hbel : Below w.heap.size w w2 := hb1.trans (hb2.mono hb1.size)
      clear HO1 htx hb1 hb2 HK HT
      go_wp2_with fail
      refine (sbBuild_any pre post ko1 kn kn ks to1 tn tn X obj sp _ HK2.out HKB.out HX.out HZ.out).mono ?_
      rintro e w3 ⟨ad, ax, ae, ac, nd, cd, ns, cs, ne, ce, nc, cc, no, ne', rfl, F, hno, hne', hnd, hkn⟩
      obtain ⟨g, hg⟩ := F.d.some_of_pos (by rw [← F.d.2.1]; exact text_pos _ _ _ _ _ _ _)
      subst hg
      have hbel3 : Below w.heap.size w w3 := hbel.trans (F.bel.mono hbel.size)
      have l1 : ns ≤ kn ∧ kn ≤ ns := by have := F.s.2.1; simp [startsTo] at this; omega
      have l2 : ne ≤ kn ∧ kn ≤ ne := by have := F.e.2.1; simp [endsTo] at this; omega
      have l3 : nc ≤ kn ∧ kn ≤ nc := by have := F.c.2.1; simp [countsTo] at this; omega
      obtain ⟨l1, l1'⟩ := l1
      obtain ⟨l2, l2'⟩ := l2
      obtain ⟨l3, l3'⟩ := l3
      have HF := hideA F
      clear F hno hne' hbel HK2 HX HKB HZ
      by_cases h0 : 0 < kn
      · obtain ⟨gs, es⟩ := HF.out.s.some_of_pos (by omega)
        subst es
        obtain ⟨ge, ee⟩ := HF.out.e.some_of_pos (by omega)
        subst ee
        obtain ⟨gc, ec⟩ := HF.out.c.some_of_pos (by omega)
        subst ec
        go_wp2
        go_loop [19] (fun i => ∃ k : Nat, k ≤ kn ∧ i = .int .i64 k) (fun i => kn - (intOf i).toNat)
        case atStart => exact ⟨0, Nat.zero_le _, rfl⟩
        case round =>
          obtain ⟨k, hk, rfl⟩ := hrel
          by_cases hlt : k < kn
          · obtain ⟨P, hP⟩ : ∃ P, P = (text (sb pre) (fun i => ks.getD i 0) (fun i => sb (txt tn X i)) obj sp k ++ memPre (fun i => sb (txt tn X i)) obj sp k).length := ⟨_, rfl⟩
            obtain ⟨Q, hQ⟩ : ∃ Q, Q = (text (sb pre) (fun i => ks.getD i 0) (fun i => sb (txt tn X i)) obj sp k ++ memPre (fun i => sb (txt tn X i)) obj sp k ++ valB (ks.getD k 0) (sb (txt tn X k)) sp).length := ⟨_, rfl⟩
            have cS : w3.cell? ⟨gs, k, none⟩ = some (.int .i64 (P : Int)) := by
              obtain ⟨g', e, _, h⟩ := HF.out.s.cell
              cases e
              rw [h k (by omega), startsTo, getD_map_range _ _ _ hlt, hP]
            have cE : w3.cell? ⟨ge, k, none⟩ = some (.int .i64 (Q : Int)) := by
              obtain ⟨g', e, _, h⟩ := HF.out.e.cell
              cases e
              rw [h k (by omega), endsTo, getD_map_range _ _ _ hlt, hQ]
            have cC : w3.cell? ⟨gc, k, none⟩ = some (.int .i64 (cntB (ks.getD k 0))) := by
              obtain ⟨g', e, _, h⟩ := HF.out.c.cell
              cases e
              rw [h k (by omega), countsTo, getD_map_range _ _ _ hlt]
            by_cases hc : cntB (ks.getD k 0) < 0
            · clear hP hQ
              generalize cntB (ks.getD k 0) = c at *
              go_wp2
              go_round
              case rel => exact ⟨k + 1, by omega, by go_num⟩
              case measure => simp [intOf]; omega
            · have HC := hideA (inner_calls (i := k) (sb pre) (fun i => ks.getD i 0) (fun i => sb (txt tn X i)) obj sp (sb post) (fun i => sb_nonneg _) HF.out.d hnd hlt hP hQ (by omega))
              clear hP hQ
              generalize cntB (ks.getD k 0) = c at *
              go_wp2_with (go_at_call 14; refine HC.out.mono ?_; rintro e w4 ⟨rfl, hw⟩; have hw' := hw.symm; subst hw'; clear hw)
              go_round
              case rel => exact ⟨k + 1, by omega, by go_num⟩
              case measure => simp [intOf]; omega
          · go_wp2
            go_ret
            exact ⟨rfl, hbel3⟩
      · clear HF
        go_wp2
        go_loop [19] (fun i => ∃ k : Nat, k ≤ kn ∧ i = .int .i64 k) (fun i => kn - (intOf i).toNat)
        case atStart => exact ⟨0, Nat.zero_le _, rfl⟩
        case round =>
          obtain ⟨k, hk, rfl⟩ := hrel
          go_wp2
          go_ret
          exact ⟨rfl, hbel3⟩
end Go.Proofs.Qxb6601094a

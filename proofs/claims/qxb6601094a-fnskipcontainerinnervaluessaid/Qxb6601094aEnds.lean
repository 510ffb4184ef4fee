/-
  FnSkipContainerEndsWhereBuilt (3): the walk.
-/
import Derived.Test.Qxb6601094aLaw3
import Derived.Test.Qxb6601094aBuildA
import Derived.Test.Qxb6601094aBuildO
import Derived.Test.Qxb6601094aSizes
import Derived.Test.Qxb6601094aClones
namespace Go.Proofs.Qxb6601094a
open Go.RowKit
set_option linter.unusedVariables false

theorem owns_src {w : World} {base n cap : Nat} {e : TypeId} {ao : Option Addr} {cs : List Value} (h : w.ownsRow base e 1 (.slice ao n cap) n cs) : Src w ao n cs := by
  refine ⟨by have := h.1; omega, ?_, ?_⟩
  · rintro rfl
    rcases h.2 with ⟨_, h2⟩ | ⟨g, c, cur, h1, _⟩
    · exact h2
    · simp at h1
  · rintro b rfl j u hu
    rcases h.2 with ⟨h1, _⟩ | ⟨g, c, cur, h1, _⟩
    · simp at h1
    · simp only [Value.slice.injEq, Option.some.injEq] at h1
      obtain ⟨rfl, _, _⟩ := h1
      exact h.cells (g := g) rfl j u hu

theorem sbBuild_any (pre post : ByteArray) (ko : Option Addr) (kn kcap : Nat) (ks : List Int) (to : Option Addr) (tn tcap : Nat) (X : Nat → ByteArray) (obj : Bool) (sp : Int) (w : World) (hk : Src w ko kn (ks.map (.int .u8))) (hkb : ∀ i, 0 ≤ ks.getD i 0 ∧ ks.getD i 0 < 256)
    (ht : Texts w to tn X) (hz : Sz pre.size kn tn post.size X) :
    Calls Try.prog 13 #[.string pre, .slice ko kn kcap, .slice to tn tcap, .bool obj, .int .u8 sp, .string post] w (BuildEnd (sb pre) (fun i => ks.getD i 0) (fun i => sb (txt tn X i)) obj sp (sb post) kn w) := by
  obtain ⟨a, b, c, d, z⟩ := hz
  cases obj
  · exact sbBuild_arr pre post ko kn kcap ks to tn tcap X sp w hk hkb ht a b c z d
  · exact sbBuild_obj pre post ko kn kcap ks to tn tcap X sp w hk hkb ht a b c z d

theorem cells_of_dat {B n cap : Nat} {zs : List Int} {w : World} {g : Nat} (hd : Dat 5 .u8 B w (some ⟨g, 0, none⟩) n cap zs) : Cells w g n zs := by
  obtain ⟨g', e, _, h⟩ := hd.cell
  cases e
  exact ⟨hd.2.1, h⟩

/-- The scan of the container that was built. -/
theorem outer_calls {B g n cap kn no ne : Nat} {w : World} (pre : List Int) (K : Nat → Int) (T : Nat → List Int) (obj : Bool) (sp : Int) (post : List Int) (hT : ∀ i, ∀ c ∈ T i, 0 ≤ c)
    (hd : Dat 5 .u8 B w (some ⟨g, 0, none⟩) n cap (text pre K T obj sp kn ++ [closing obj] ++ post)) (hn : n ≤ 70000000000000) (h1 : no = pre.length) (h2 : ne = (text pre K T obj sp kn ++ [closing obj]).length) :
    Calls Try.prog 14 #[.slice (some ⟨g, 0, none⟩) n cap, .int .i64 no] w fun e w' => e = .returned (.tuple #[.int .i64 (ne : Int), .int .i64 (kn : Int)]) ∧ w' = w := by
  have hc := cells_of_dat hd
  have hl := hd.2.1
  cases kn with
  | zero =>
    obtain ⟨g1, g2, g3⟩ := outer_none pre K T obj sp post
    rw [hl] at g3
    rw [← h1] at g1 g2 g3
    refine ZZskip (skipContainer_none g n cap _ no (spc sp).length w hc hn g1 ?_ g3 ne ?_)
    · rw [g2]; cases obj <;> decide
    · rw [h2, h1]; simp [text]; omega
  | succ k =>
    obtain ⟨c, hb, g1, g2, g3⟩ := outer_some pre K T obj sp post k
    have hi := outer_inv pre K T obj sp hT post k
    rw [hl] at g3
    rw [← h1] at g1 g2 g3 hi
    rw [← h2] at hi
    exact ZZskip (skipContainer_some g n cap _ post no (spc sp).length ne _ w hc hn g1 (by rw [g2]; exact hb.1) (by rw [g2]; exact hb.2.1) (by rw [g2]; exact hb.2.2) g3 hi)

theorem text_pos (pre : List Int) (K : Nat → Int) (T : Nat → List Int) (obj : Bool) (sp : Int) (post : List Int) (kn : Nat) : 0 < (text pre K T obj sp kn ++ [closing obj] ++ post).length := by
  simp only [List.length_append, List.length_cons]; omega

set_option maxRecDepth 100000 in
set_option maxHeartbeats 1000000 in
theorem ends_walk (pre post : ByteArray) (ko : Option Addr) (kn kcap : Nat) (ks : List Int) (to : Option Addr) (tn tcap : Nat) (X : Nat → ByteArray) (obj : Bool) (sp : Int) (w : World) (hk : Src w ko kn (ks.map (.int .u8))) (hkb : ∀ i, 0 ≤ ks.getD i 0 ∧ ks.getD i 0 < 256)
    (ht : Texts w to tn X) (h1 : pre.size ≤ maxLen) (h2 : kn ≤ maxLen) (h3 : tn ≤ maxLen) (h4 : ∀ r, r < tn → (X r).size ≤ maxLen) (h5 : post.size ≤ maxLen) :
    Calls Try.prog 3 #[.string pre, .slice ko kn kcap, .slice to tn tcap, .bool obj, .int .u8 sp, .string post] w fun e w' => e = .returned (.bool true) ∧ Below w.heap.size w w' := by
  have HK := hideA hk
  have HKB := hideA hkb
  have HT := hideA ht
  clear hk hkb ht
  go_enter Try.func3, Try.ntmps3
  go_wp2_with fail
  refine (zz9_any pre post ko kn kcap to tn tcap X obj sp _ HT.out h1 h2 h3 h4 h5).mono ?_
  rintro e w0 ⟨b1, rfl, hw, hb1⟩
  have hw' := hw.symm
  subst hw'
  clear hw h1 h2 h3 h4 h5
  cases b1 with
  | false =>
    clear hb1
    go_wp2
    go_ret
    exact ⟨rfl, Below.refl _ _⟩
  | true =>
    have HZ := hideA (hb1 rfl)
    clear hb1
    go_wp2_with fail
    refine (sbTooBig_any pre post ko kn kcap to tn tcap X _ HT.out HZ.out).mono ?_
    rintro e w0 ⟨b2, rfl, hw, hb2⟩
    have hw' := hw.symm
    subst hw'
    clear hw hb2
    cases b2 with
    | true =>
      go_wp2
      go_ret
      exact ⟨rfl, Below.refl _ _⟩
    | false =>
      go_wp2_with fail
      refine (sbCloneBytes_any ko kn kcap ks _ HK.out HZ.out.2.1).mono ?_
      rintro e w1 ⟨ko1, rfl, hown1, hb1⟩
      have HO1 := hideA hown1
      clear hown1
      go_wp2_with fail
      refine (sbCloneStrings_any to tn tcap X _ (HT.out.later hb1) HZ.out.2.2.1).mono ?_
      rintro e w2 ⟨to1, rfl, htx, hb2⟩
      have HX := hideA htx
      have HK2 := hideA ((owns_src HO1.out).later hb2)
      have hbel : Below w.heap.size w w2 := hb1.trans (hb2.mono hb1.size)
      clear HO1 htx hb1 hb2 HK HT
      go_wp2_with fail
      refine (sbBuild_any pre post ko1 kn kn ks to1 tn tn X obj sp _ HK2.out HKB.out HX.out HZ.out).mono ?_
      rintro e w3 ⟨ad, ax, ae, ac, nd, cd, ns, cs, ne, ce, nc, cc, no, ne', rfl, F, hno, hne', hnd, hkn⟩
      obtain ⟨g, hg⟩ := F.d.some_of_pos (by rw [← F.d.2.1]; exact text_pos _ _ _ _ _ _ _)
      subst hg
      have HC := hideA (outer_calls (sb pre) (fun i => ks.getD i 0) (fun i => sb (txt tn X i)) obj sp (sb post) (fun i => sb_nonneg _) F.d hnd hno hne')
      have hbel3 : Below w.heap.size w w3 := hbel.trans (F.bel.mono hbel.size)
      clear F hno hne' hbel HK2 HX HKB HZ
      go_wp2_with fail
      refine HC.out.mono ?_
      rintro e w4 ⟨rfl, hw⟩
      have hw' := hw.symm
      subst hw'
      clear hw HC
      go_wp2
      go_ret
      exact ⟨by simp, hbel3⟩
end Go.Proofs.Qxb6601094a

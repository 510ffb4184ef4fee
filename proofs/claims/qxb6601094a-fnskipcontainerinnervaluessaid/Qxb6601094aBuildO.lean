/-
  sbBuild (13), object = true.
-/
import Derived.Test.Qxb6601094aBuildBase
namespace Go.Proofs.Qxb6601094a
open Go.RowKit
set_option linter.unusedVariables false

set_option maxRecDepth 100000 in
set_option maxHeartbeats 4000000 in
theorem sbBuild_obj (pre post : ByteArray) (ko : Option Addr) (kn kcap : Nat) (ks : List Int) (to : Option Addr) (tn tcap : Nat) (X : Nat → ByteArray) (sp : Int) (w : World) (hk : Src w ko kn (ks.map (.int .u8))) (hkb : ∀ i, 0 ≤ ks.getD i 0 ∧ ks.getD i 0 < 256)
    (ht : Texts w to tn X) (h1 : pre.size ≤ 1048576) (h2 : kn ≤ 1048576) (h3 : tn ≤ 1048576) (h4 : ∀ r, r < tn → (X r).size ≤ 1048576) (h5 : post.size ≤ 1048576) :
    Calls Try.prog 13 #[.string pre, .slice ko kn kcap, .slice to tn tcap, .bool true, .int .u8 sp, .string post] w (BuildEnd (sb pre) (fun i => ks.getD i 0) (fun i => sb (txt tn X i)) true sp (sb post) kn w) := by
  have F := Four.start w
  have HK := hideA hk
  have HKB := hideA hkb
  have HX := hideA ht
  have H4 := hideA h4
  clear hk hkb ht h4
  go_enter Try.func13, Try.ntmps13
  go_wp2_with (first | (go_at_call 27; refine (sbSpace_any _ _ _ _ _ sp _ F.d (by omega)).mono ?_; rintro e w3 ⟨a3, n3, c3, rfl, hA⟩; have hl := F.app_le hA (spc_len sp); have F2 := F.app hA; clear F hA; have F := F2; clear F2) | (at_builtin; refine wpList_app _ 22 5 .u8 1 Try.underlying22 infoB _ rfl _ _ rfl _ _ _ 1 _ _ [_] rfl rfl rfl rfl F.d (by omega) (by omega) ?_; intro ao' n' cap' w' hd hg hn1 hn2; have F2 := F.data hd hg; clear F hd hg; have F := F2; clear F2) | (at_builtin; refine wpList_app_str _ 22 9 5 1 Try.underlying22 Try.underlying9 infoB rfl _ _ rfl _ _ _ _ _ _ rfl rfl F.d (by omega) (by omega) ?_; intro aoP nP capP wP hd hg hn1 hn2; have F2 := F.data hd hg; clear F hd hg; have F := F2; clear F2; have hO := hideA F.d.2.1))
  go_loopw [12, 15, 16, 17, 18] (fun v12 v15 v16 v17 i wr => ∃ (k : Nat) (ad ax ae ac : Option Addr) (nd cd ns cs ne ce nc cc : Nat), k ≤ kn ∧ i = .int .i64 k ∧ v12 = .slice ad nd cd ∧ v15 = .slice ax ns cs ∧ v16 = .slice ae ne ce ∧ v17 = .slice ac nc cc ∧
      Four w.heap.size w wr ad ax ae ac nd cd ns cs ne ce nc cc (text (sb pre) (fun i => ks.getD i 0) (fun i => sb (txt tn X i)) true sp k) (startsTo (sb pre) (fun i => ks.getD i 0) (fun i => sb (txt tn X i)) true sp k) (endsTo (sb pre) (fun i => ks.getD i 0) (fun i => sb (txt tn X i)) true sp k) (countsTo (fun i => ks.getD i 0) k) ∧
      nd ≤ 1048600 + k * 19000000 ∧ ns ≤ k ∧ ne ≤ k ∧ nc ≤ k) (fun _ _ _ _ i _ => kn - (intOf i).toNat)
  case atStart => exact ⟨0, _, _, _, _, _, _, _, _, _, _, _, _, Nat.zero_le _, rfl, rfl, rfl, rfl, rfl, F.cast (by simp [text, opening]) rfl rfl rfl, by omega, by omega, by omega, by omega⟩
  case round =>
    clear F
    obtain ⟨k, ad, ax, ae, ac, nd, cd, ns, cs, ne, ce, nc, cc, hk, rfl, rfl, rfl, rfl, rfl, F, hnd, hns, hne, hnc⟩ := hrel
    by_cases hlt : k < kn
    · cases hko : ko with
      | none => exact absurd (HK.out.2.1 hko) (by omega)
      | some kb =>
        have hc0 := HK.out.2.2 kb hko k (.int .u8 (ks.getD k 0)) (by
          have : k < ks.length := by have := HK.out.1; simp at this; omega
          simp [List.getD_eq_getElem?_getD, List.getElem?_eq_getElem this])
        have HC0 := hideA (And.intro hc0 (World.block_lt_of_cell? w _ hc0))
        have hkk := HKB.out k
        obtain ⟨hk0, hk1⟩ := hkk
        clear hc0 hko HK HKB
        obtain ⟨kk, HKk⟩ : ∃ kk, Hid (ks.getD k 0 = kk) := ⟨_, rfl⟩
        rw [HKk.out] at HC0 hk0 hk1
        have hc := (F.bel.cell HC0.out.2).trans HC0.out.1
        by_cases htl : k < tn
        · have HT : Hid (txt tn X k = X k) := if_pos htl
          have hT := H4.out k htl
          cases hto : to with
          | none => exact absurd (HX.out.none hto) (by omega)
          | some tb =>
            have hd0 := HX.out.cell tb hto k htl
            have HD0 := hideA (And.intro hd0 (World.block_lt_of_cell? w _ hd0))
            have hd1 := (F.bel.cell HD0.out.2).trans HD0.out.1
            clear hd0 hto HX H4
            by_cases hp : 0 < k
            · have HP : Hid (0 < k) := hp
              have hp' : ((0 : Int) < (k : Int)) := by omega
              go_wp2_with (first | (go_at_call 27; refine (sbSpace_any _ _ _ _ _ sp _ F.d (by omega)).mono ?_; rintro e w3 ⟨a3, n3, c3, rfl, hA⟩; have hl := F.app_le hA (spc_len sp); have F2 := F.app hA; clear F hA; have F := F2; clear F2; clear hc; have hc := (F.bel.cell HC0.out.2).trans HC0.out.1; clear hd1; have hd1 := (F.bel.cell HD0.out.2).trans HD0.out.1) | (go_at_call 28; refine (sbString_any _ _ _ _ _ _ _ F.d (by omega) hT).mono ?_; rintro e w3 ⟨a3, n3, c3, rfl, hA⟩; have hl := F.app_le hA (str_le _); have F2 := F.app hA; clear F hA; have F := F2; clear F2; clear hc; have hc := (F.bel.cell HC0.out.2).trans HC0.out.1; clear hd1; have hd1 := (F.bel.cell HD0.out.2).trans HD0.out.1) | (go_at_call 29; refine (sbValue_any _ _ _ _ _ _ sp _ _ F.d (by omega) hT hk0 hk1).mono ?_; rintro e w3 ⟨a3, n3, c3, rfl, hA⟩; have hl := F.app_le hA (val_le _ _ _); have F2 := F.app hA; clear F hA; have F := F2; clear F2; clear hc; have hc := (F.bel.cell HC0.out.2).trans HC0.out.1; clear hd1; have hd1 := (F.bel.cell HD0.out.2).trans HD0.out.1) | (at_builtin; refine wpList_app _ 28 3 .i64 8 Try.underlying28 infoI _ rfl (.tmp 71) (.tmp 74) rfl _ _ _ 1 _ _ [_] rfl rfl rfl rfl F.s (by omega) (by omega) ?_; have hS := hideA F.dlen; intro ao' n' cap' w' hd hg hns1 hns2; have F2 := F.starts hd hg; clear F hd hg; have F := F2; clear F2; clear hc; have hc := (F.bel.cell HC0.out.2).trans HC0.out.1; clear hd1; have hd1 := (F.bel.cell HD0.out.2).trans HD0.out.1) | (at_builtin; refine wpList_app _ 28 3 .i64 8 Try.underlying28 infoI _ rfl (.tmp 87) (.tmp 90) rfl _ _ _ 1 _ _ [_] rfl rfl rfl rfl F.e (by omega) (by omega) ?_; have hE := hideA F.dlen; intro ao' n' cap' w' hd hg hne1 hne2; have F2 := F.ends hd hg; clear F hd hg; have F := F2; clear F2; clear hc; have hc := (F.bel.cell HC0.out.2).trans HC0.out.1; clear hd1; have hd1 := (F.bel.cell HD0.out.2).trans HD0.out.1) | (at_builtin; refine wpList_app _ 28 3 .i64 8 Try.underlying28 infoI _ rfl (.tmp 92) (.tmp 94) rfl _ _ _ 1 _ _ [_] rfl rfl rfl rfl F.c (by omega) (by omega) ?_; intro ao' n' cap' w' hd hg hnc1 hnc2; have F2 := F.counts hd hg; clear F hd hg; have F := F2; clear F2; clear hc; have hc := (F.bel.cell HC0.out.2).trans HC0.out.1; clear hd1; have hd1 := (F.bel.cell HD0.out.2).trans HD0.out.1) | (at_builtin; refine wpList_app _ 22 5 .u8 1 Try.underlying22 infoB _ rfl _ _ rfl _ _ _ 1 _ _ [_] rfl rfl rfl rfl F.d (by omega) (by omega) ?_; intro ao' n' cap' w' hd hg hn1 hn2; have F2 := F.data hd hg; clear F hd hg; have F := F2; clear F2; clear hc; have hc := (F.bel.cell HC0.out.2).trans HC0.out.1; clear hd1; have hd1 := (F.bel.cell HD0.out.2).trans HD0.out.1))
              go_roundw
              case rel =>
                refine ⟨k + 1, _, _, _, _, _, _, _, _, _, _, _, _, by omega, by go_num, rfl, rfl, rfl, rfl, F.cast ?_ ?_ ?_ ?_, by omega, by omega, by omega, by omega⟩
                · simp only [text, mem, memPre, HT.out, HKk.out]; simp [HP.out]
                · rw [startsTo_succ, hS.out]; simp only [memPre, HT.out]; simp [HP.out]
                · rw [endsTo_succ, hE.out]; simp only [memPre, HT.out, HKk.out]; simp [HP.out]
                · rw [countsTo_succ]; simp only [HKk.out]
              case measure => simp [intOf]; omega
            · have HP : Hid (¬ 0 < k) := hp
              have hp' : ¬ ((0 : Int) < (k : Int)) := by omega
              go_wp2_with (first | (go_at_call 27; refine (sbSpace_any _ _ _ _ _ sp _ F.d (by omega)).mono ?_; rintro e w3 ⟨a3, n3, c3, rfl, hA⟩; have hl := F.app_le hA (spc_len sp); have F2 := F.app hA; clear F hA; have F := F2; clear F2; clear hc; have hc := (F.bel.cell HC0.out.2).trans HC0.out.1; clear hd1; have hd1 := (F.bel.cell HD0.out.2).trans HD0.out.1) | (go_at_call 28; refine (sbString_any _ _ _ _ _ _ _ F.d (by omega) hT).mono ?_; rintro e w3 ⟨a3, n3, c3, rfl, hA⟩; have hl := F.app_le hA (str_le _); have F2 := F.app hA; clear F hA; have F := F2; clear F2; clear hc; have hc := (F.bel.cell HC0.out.2).trans HC0.out.1; clear hd1; have hd1 := (F.bel.cell HD0.out.2).trans HD0.out.1) | (go_at_call 29; refine (sbValue_any _ _ _ _ _ _ sp _ _ F.d (by omega) hT hk0 hk1).mono ?_; rintro e w3 ⟨a3, n3, c3, rfl, hA⟩; have hl := F.app_le hA (val_le _ _ _); have F2 := F.app hA; clear F hA; have F := F2; clear F2; clear hc; have hc := (F.bel.cell HC0.out.2).trans HC0.out.1; clear hd1; have hd1 := (F.bel.cell HD0.out.2).trans HD0.out.1) | (at_builtin; refine wpList_app _ 28 3 .i64 8 Try.underlying28 infoI _ rfl (.tmp 71) (.tmp 74) rfl _ _ _ 1 _ _ [_] rfl rfl rfl rfl F.s (by omega) (by omega) ?_; have hS := hideA F.dlen; intro ao' n' cap' w' hd hg hns1 hns2; have F2 := F.starts hd hg; clear F hd hg; have F := F2; clear F2; clear hc; have hc := (F.bel.cell HC0.out.2).trans HC0.out.1; clear hd1; have hd1 := (F.bel.cell HD0.out.2).trans HD0.out.1) | (at_builtin; refine wpList_app _ 28 3 .i64 8 Try.underlying28 infoI _ rfl (.tmp 87) (.tmp 90) rfl _ _ _ 1 _ _ [_] rfl rfl rfl rfl F.e (by omega) (by omega) ?_; have hE := hideA F.dlen; intro ao' n' cap' w' hd hg hne1 hne2; have F2 := F.ends hd hg; clear F hd hg; have F := F2; clear F2; clear hc; have hc := (F.bel.cell HC0.out.2).trans HC0.out.1; clear hd1; have hd1 := (F.bel.cell HD0.out.2).trans HD0.out.1) | (at_builtin; refine wpList_app _ 28 3 .i64 8 Try.underlying28 infoI _ rfl (.tmp 92) (.tmp 94) rfl _ _ _ 1 _ _ [_] rfl rfl rfl rfl F.c (by omega) (by omega) ?_; intro ao' n' cap' w' hd hg hnc1 hnc2; have F2 := F.counts hd hg; clear F hd hg; have F := F2; clear F2; clear hc; have hc := (F.bel.cell HC0.out.2).trans HC0.out.1; clear hd1; have hd1 := (F.bel.cell HD0.out.2).trans HD0.out.1) | (at_builtin; refine wpList_app _ 22 5 .u8 1 Try.underlying22 infoB _ rfl _ _ rfl _ _ _ 1 _ _ [_] rfl rfl rfl rfl F.d (by omega) (by omega) ?_; intro ao' n' cap' w' hd hg hn1 hn2; have F2 := F.data hd hg; clear F hd hg; have F := F2; clear F2; clear hc; have hc := (F.bel.cell HC0.out.2).trans HC0.out.1; clear hd1; have hd1 := (F.bel.cell HD0.out.2).trans HD0.out.1))
              go_roundw
              case rel =>
                refine ⟨k + 1, _, _, _, _, _, _, _, _, _, _, _, _, by omega, by go_num, rfl, rfl, rfl, rfl, F.cast ?_ ?_ ?_ ?_, by omega, by omega, by omega, by omega⟩
                · simp only [text, mem, memPre, HT.out, HKk.out]; simp [HP.out]
                · rw [startsTo_succ, hS.out]; simp only [memPre, HT.out]; simp [HP.out]
                · rw [endsTo_succ, hE.out]; simp only [memPre, HT.out, HKk.out]; simp [HP.out]
                · rw [countsTo_succ]; simp only [HKk.out]
              case measure => simp [intOf]; omega
        · have HT : Hid (txt tn X k = ⟨#[]⟩) := if_neg htl
          have hT : (ByteArray.mk #[]).size ≤ 1048576 := by decide
          clear HX H4
          by_cases hp : 0 < k
          · have HP : Hid (0 < k) := hp
            have hp' : ((0 : Int) < (k : Int)) := by omega
            go_wp2_with (first | (go_at_call 27; refine (sbSpace_any _ _ _ _ _ sp _ F.d (by omega)).mono ?_; rintro e w3 ⟨a3, n3, c3, rfl, hA⟩; have hl := F.app_le hA (spc_len sp); have F2 := F.app hA; clear F hA; have F := F2; clear F2; clear hc; have hc := (F.bel.cell HC0.out.2).trans HC0.out.1) | (go_at_call 28; refine (sbString_any _ _ _ _ _ _ _ F.d (by omega) hT).mono ?_; rintro e w3 ⟨a3, n3, c3, rfl, hA⟩; have hl := F.app_le hA (str_le _); have F2 := F.app hA; clear F hA; have F := F2; clear F2; clear hc; have hc := (F.bel.cell HC0.out.2).trans HC0.out.1) | (go_at_call 29; refine (sbValue_any _ _ _ _ _ _ sp _ _ F.d (by omega) hT hk0 hk1).mono ?_; rintro e w3 ⟨a3, n3, c3, rfl, hA⟩; have hl := F.app_le hA (val_le _ _ _); have F2 := F.app hA; clear F hA; have F := F2; clear F2; clear hc; have hc := (F.bel.cell HC0.out.2).trans HC0.out.1) | (at_builtin; refine wpList_app _ 28 3 .i64 8 Try.underlying28 infoI _ rfl (.tmp 71) (.tmp 74) rfl _ _ _ 1 _ _ [_] rfl rfl rfl rfl F.s (by omega) (by omega) ?_; have hS := hideA F.dlen; intro ao' n' cap' w' hd hg hns1 hns2; have F2 := F.starts hd hg; clear F hd hg; have F := F2; clear F2; clear hc; have hc := (F.bel.cell HC0.out.2).trans HC0.out.1) | (at_builtin; refine wpList_app _ 28 3 .i64 8 Try.underlying28 infoI _ rfl (.tmp 87) (.tmp 90) rfl _ _ _ 1 _ _ [_] rfl rfl rfl rfl F.e (by omega) (by omega) ?_; have hE := hideA F.dlen; intro ao' n' cap' w' hd hg hne1 hne2; have F2 := F.ends hd hg; clear F hd hg; have F := F2; clear F2; clear hc; have hc := (F.bel.cell HC0.out.2).trans HC0.out.1) | (at_builtin; refine wpList_app _ 28 3 .i64 8 Try.underlying28 infoI _ rfl (.tmp 92) (.tmp 94) rfl _ _ _ 1 _ _ [_] rfl rfl rfl rfl F.c (by omega) (by omega) ?_; intro ao' n' cap' w' hd hg hnc1 hnc2; have F2 := F.counts hd hg; clear F hd hg; have F := F2; clear F2; clear hc; have hc := (F.bel.cell HC0.out.2).trans HC0.out.1) | (at_builtin; refine wpList_app _ 22 5 .u8 1 Try.underlying22 infoB _ rfl _ _ rfl _ _ _ 1 _ _ [_] rfl rfl rfl rfl F.d (by omega) (by omega) ?_; intro ao' n' cap' w' hd hg hn1 hn2; have F2 := F.data hd hg; clear F hd hg; have F := F2; clear F2; clear hc; have hc := (F.bel.cell HC0.out.2).trans HC0.out.1))
            go_roundw
            case rel =>
              refine ⟨k + 1, _, _, _, _, _, _, _, _, _, _, _, _, by omega, by go_num, rfl, rfl, rfl, rfl, F.cast ?_ ?_ ?_ ?_, by omega, by omega, by omega, by omega⟩
              · simp only [text, mem, memPre, HT.out, HKk.out]; simp [HP.out]
              · rw [startsTo_succ, hS.out]; simp only [memPre, HT.out]; simp [HP.out]
              · rw [endsTo_succ, hE.out]; simp only [memPre, HT.out, HKk.out]; simp [HP.out]
              · rw [countsTo_succ]; simp only [HKk.out]
            case measure => simp [intOf]; omega
          · have HP : Hid (¬ 0 < k) := hp
            have hp' : ¬ ((0 : Int) < (k : Int)) := by omega
            go_wp2_with (first | (go_at_call 27; refine (sbSpace_any _ _ _ _ _ sp _ F.d (by omega)).mono ?_; rintro e w3 ⟨a3, n3, c3, rfl, hA⟩; have hl := F.app_le hA (spc_len sp); have F2 := F.app hA; clear F hA; have F := F2; clear F2; clear hc; have hc := (F.bel.cell HC0.out.2).trans HC0.out.1) | (go_at_call 28; refine (sbString_any _ _ _ _ _ _ _ F.d (by omega) hT).mono ?_; rintro e w3 ⟨a3, n3, c3, rfl, hA⟩; have hl := F.app_le hA (str_le _); have F2 := F.app hA; clear F hA; have F := F2; clear F2; clear hc; have hc := (F.bel.cell HC0.out.2).trans HC0.out.1) | (go_at_call 29; refine (sbValue_any _ _ _ _ _ _ sp _ _ F.d (by omega) hT hk0 hk1).mono ?_; rintro e w3 ⟨a3, n3, c3, rfl, hA⟩; have hl := F.app_le hA (val_le _ _ _); have F2 := F.app hA; clear F hA; have F := F2; clear F2; clear hc; have hc := (F.bel.cell HC0.out.2).trans HC0.out.1) | (at_builtin; refine wpList_app _ 28 3 .i64 8 Try.underlying28 infoI _ rfl (.tmp 71) (.tmp 74) rfl _ _ _ 1 _ _ [_] rfl rfl rfl rfl F.s (by omega) (by omega) ?_; have hS := hideA F.dlen; intro ao' n' cap' w' hd hg hns1 hns2; have F2 := F.starts hd hg; clear F hd hg; have F := F2; clear F2; clear hc; have hc := (F.bel.cell HC0.out.2).trans HC0.out.1) | (at_builtin; refine wpList_app _ 28 3 .i64 8 Try.underlying28 infoI _ rfl (.tmp 87) (.tmp 90) rfl _ _ _ 1 _ _ [_] rfl rfl rfl rfl F.e (by omega) (by omega) ?_; have hE := hideA F.dlen; intro ao' n' cap' w' hd hg hne1 hne2; have F2 := F.ends hd hg; clear F hd hg; have F := F2; clear F2; clear hc; have hc := (F.bel.cell HC0.out.2).trans HC0.out.1) | (at_builtin; refine wpList_app _ 28 3 .i64 8 Try.underlying28 infoI _ rfl (.tmp 92) (.tmp 94) rfl _ _ _ 1 _ _ [_] rfl rfl rfl rfl F.c (by omega) (by omega) ?_; intro ao' n' cap' w' hd hg hnc1 hnc2; have F2 := F.counts hd hg; clear F hd hg; have F := F2; clear F2; clear hc; have hc := (F.bel.cell HC0.out.2).trans HC0.out.1) | (at_builtin; refine wpList_app _ 22 5 .u8 1 Try.underlying22 infoB _ rfl _ _ rfl _ _ _ 1 _ _ [_] rfl rfl rfl rfl F.d (by omega) (by omega) ?_; intro ao' n' cap' w' hd hg hn1 hn2; have F2 := F.data hd hg; clear F hd hg; have F := F2; clear F2; clear hc; have hc := (F.bel.cell HC0.out.2).trans HC0.out.1))
            go_roundw
            case rel =>
              refine ⟨k + 1, _, _, _, _, _, _, _, _, _, _, _, _, by omega, by go_num, rfl, rfl, rfl, rfl, F.cast ?_ ?_ ?_ ?_, by omega, by omega, by omega, by omega⟩
              · simp only [text, mem, memPre, HT.out, HKk.out]; simp [HP.out]
              · rw [startsTo_succ, hS.out]; simp only [memPre, HT.out]; simp [HP.out]
              · rw [endsTo_succ, hE.out]; simp only [memPre, HT.out, HKk.out]; simp [HP.out]
              · rw [countsTo_succ]; simp only [HKk.out]
            case measure => simp [intOf]; omega
    · have hkn : Hid (k = kn) := by have : k = kn := by omega
                                    exact this
      clear HK HKB HX H4
      go_wp2_with (first | (at_builtin; refine wpList_app _ 22 5 .u8 1 Try.underlying22 infoB _ rfl _ _ rfl _ _ _ 1 _ _ [_] rfl rfl rfl rfl F.d (by omega) (by omega) ?_; intro aoC nC capC wC hd hg hn1 hn2; have F2 := F.data hd hg; clear F hd hg; have F := F2; clear F2; have hN := hideA F.d.2.1) | (at_builtin; refine wpList_app_str _ 22 9 5 1 Try.underlying22 Try.underlying9 infoB rfl _ _ rfl _ _ _ _ _ _ rfl rfl F.d (by omega) (by omega) ?_; intro aoD nD capD wD hd hg hn1 hn2; have F2 := F.data hd hg; clear F hd hg; have F := F2; clear F2))
      refine bodyPost_ret (v := .tuple #[.slice aoD nD capD, .int .i64 nP, .int .i64 nC, .slice ax ns cs, .slice ae ne ce, .slice ac nc cc]) (by simp [results, Try.results13, go_sem]) rfl ?_
      refine ⟨aoD, ax, ae, ac, nD, capD, ns, cs, ne, ce, nc, cc, nP, nC, rfl, F.cast ?_ ?_ ?_ ?_, ?_, ?_, by omega, h2⟩
      · rw [hkn.out]; simp [closing]
      · rw [hkn.out]
      · rw [hkn.out]
      · rw [hkn.out]
      · have := hO.out; simpa using this.symm
      · have := hN.out; rw [hkn.out] at this; exact this.symm
end Go.Proofs.Qxb6601094a

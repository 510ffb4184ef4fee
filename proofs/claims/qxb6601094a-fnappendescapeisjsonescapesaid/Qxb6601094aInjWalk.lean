/-
  FnAppendEscapeInjectiveOnBMP (function 6): the walk.
-/
import Derived.Test.Qxb6601094aEsc
import Derived.Test.Qxb6601094aInjPlain
import Derived.Deep.QuietTactic
import Derived.BigQuiet
import Derived.Deep.Light
namespace Go.Proofs.Qxb6601094a
open Go.RowKit

theorem owns_shape {w : World} {base n : Nat} {v : Value} {zs : List Int} (h : w.ownsRow base 5 1 v n (zs.map (.int .u8))) (hn : 0 < n) :
    ∃ g cap, v = .slice (some ⟨g, 0, none⟩) n cap ∧ base ≤ g ∧ g < w.heap.size ∧ zs.length = n ∧ n ≤ cap ∧ cap ≤ maxLen ∧ ∀ j, j < n → w.cell? ⟨g, j, none⟩ = some (.int .u8 (zs.getD j 0)) := by
  have hl : zs.length = n := by have := h.1; simpa using this
  have hlt := h.lt
  obtain ⟨h0, ⟨rfl, rfl⟩ | ⟨g, cap, cur, rfl, h2, h3, h4, h5, h6⟩⟩ := h
  · omega
  · refine ⟨g, cap, rfl, h2, (hlt g rfl).2, hl, h4, h5, ?_⟩
    intro j hj
    have hown : w.ownsRow base 5 1 (.slice (some ⟨g, 0, none⟩) n cap) n (zs.map (.int .u8)) := ⟨h0, .inr ⟨g, cap, cur, rfl, h2, h3, h4, h5, h6⟩⟩
    rw [hown.cellAt j (by omega)]
    have : j < zs.length := by omega
    simp [List.getD_eq_getElem?_getD, List.getElem?_eq_getElem this]

theorem full_nil (w : World) : Full w none 0 [] := ⟨fun _ => ⟨rfl, rfl⟩, rfl, fun b h => by cases h⟩

set_option maxHeartbeats 400000 in
theorem inj_main (a b : Int) (w : World) (ha : 0 ≤ a) (ha1 : a ≤ 65535) (hb : 0 ≤ b) (hb1 : b ≤ 65535) (hne : (a == b) = false) :
    Calls Try.prog 6 #[.int .i32 a, .int .i32 b] w fun e w' => e = .returned (.bool true) ∧ Below w.heap.size w w' := by
  have la := esc_len a
  have lb := esc_len b
  go_enter Try.func6, Try.ntmps6
  go_wp2_with fail
  refine (ZZappendEscape_any none 0 [] a _ (full_nil _) (by omega)).mono ?_
  rintro e w1 ⟨v1, rfl, own1, bel1⟩
  rw [List.nil_append, Nat.zero_add] at own1
  go_wp2_with fail
  refine (ZZappendEscape_any none 0 [] b _ (full_nil _) (by omega)).mono ?_
  rintro e w2 ⟨v2, rfl, own2, bel2⟩
  rw [List.nil_append, Nat.zero_add] at own2
  obtain ⟨g1, cap1, rfl, hg1, hg1', hl1, hc1, hm1, cell1⟩ := owns_shape own1 (by omega)
  obtain ⟨g2, cap2, rfl, hg2, hg2', hl2, hc2, hm2, cell2⟩ := owns_shape own2 (by omega)
  have cell1' : ∀ j, j < (esc a).length → w2.cell? ⟨g1, j, none⟩ = some (.int .u8 ((esc a).getD j 0)) := fun j hj => (bel2.cell (by exact hg1')).trans (cell1 j hj)
  have hinj : Hid (esc a ≠ esc b) := fun h => by simp at hne; exact hne (esc_inj ha ha1 hb hb1 h)
  have hbel : Hid (Below w.heap.size w w2) := bel1.trans (bel2.mono bel1.size)
  have hG1 : g1 < w2.heap.size := Nat.lt_of_lt_of_le hg1' bel2.size
  clear cell1 own1 own2 bel1 bel2 hl1 hl2 hg1' hg2 hg1 hne ha ha1 hb hb1
  generalize esc a = A at *
  generalize esc b = B at *
  by_cases hlen : A.length = B.length
  · have hlen' : Hid (A.length = B.length) := hlen
    have hB : B.length ≤ A.length ∧ A.length ≤ B.length := by omega
    obtain ⟨hB1, hB2⟩ := hB
    clear hlen
    go_wp2
    go_loopw [7] (fun i wr => ∃ k : Nat, k ≤ A.length ∧ i = .int .i64 k ∧ (∀ j, j < k → A.getD j 0 = B.getD j 0) ∧ Below w2.heap.size w2 wr) (fun i _ => A.length - (intOf i).toNat)
    case atStart => exact ⟨0, Nat.zero_le _, rfl, fun j h => by omega, Below.refl _ _⟩
    case round =>
      obtain ⟨k, hk, rfl, heq, hb⟩ := hrel
      by_cases hlt : k < A.length
      · have d1 : wr.cell? ⟨g1, k, none⟩ = some (.int .u8 (A.getD k 0)) := (hb.cell (by exact hG1)).trans (cell1' k hlt)
        have d2 : wr.cell? ⟨g2, k, none⟩ = some (.int .u8 (B.getD k 0)) := (hb.cell (by exact hg2')).trans (cell2 k (by omega))
        have hlt2 : k < B.length := by omega
        have HE : Hid (∀ j, j < k → A.getD j 0 = B.getD j 0) := heq
        clear cell1' cell2 heq
        generalize hx : A.getD k 0 = x at *
        generalize hy : B.getD k 0 = y at *
        have HX : Hid (A.getD k 0 = x) := hx
        have HY : Hid (B.getD k 0 = y) := hy
        clear hx hy
        go_wp2
        go_quiet (fail)
        go_wp2
        · go_ret
          exact ⟨rfl, hbel.out.trans (below_drewN (hb.mono hbel.out.size) _)⟩
        · go_roundw
          case rel =>
            have hxy : x = y := by rename_i h; simpa using h
            refine ⟨k + 1, by omega, by go_num, ?_, below_drewN hb _⟩
            intro j hj
            by_cases hjk : j < k
            · exact HE.out j hjk
            · have : j = k := by omega
              rw [this, HX.out, HY.out, hxy]
          case measure => simp [intOf]; omega
      · go_wp2
        exfalso
        exact hinj.out (list_eq_of_getD hlen'.out (fun j hj => heq j (by omega)))
  · go_wp2
    go_ret
    exact ⟨rfl, hbel.out⟩

theorem inj_walk (a b : Int) (w : World) :
    Calls Try.prog 6 #[.int .i32 a, .int .i32 b] w fun e w' => e = .returned (.bool true) ∧ Below w.heap.size w w' := by
  by_cases h1 : a < 0
  · go_enter Try.func6, Try.ntmps6
    go_wp2
    go_ret
    exact ⟨rfl, Below.refl _ _⟩
  by_cases h2 : 65535 < a
  · go_enter Try.func6, Try.ntmps6
    go_wp2
    go_ret
    exact ⟨rfl, Below.refl _ _⟩
  by_cases h3 : b < 0
  · go_enter Try.func6, Try.ntmps6
    go_wp2
    go_ret
    exact ⟨rfl, Below.refl _ _⟩
  by_cases h4 : 65535 < b
  · go_enter Try.func6, Try.ntmps6
    go_wp2
    go_ret
    exact ⟨rfl, Below.refl _ _⟩
  cases h5 : (a == b)
  · exact inj_main a b w (by omega) (by omega) (by omega) (by omega) h5
  · go_enter Try.func6, Try.ntmps6
    go_wp2
    go_ret
    exact ⟨rfl, Below.refl _ _⟩
end Go.Proofs.Qxb6601094a

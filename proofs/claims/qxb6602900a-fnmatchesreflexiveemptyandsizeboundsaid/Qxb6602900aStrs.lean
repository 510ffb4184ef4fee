/-
  Slices of strings: copies (9), sizes (8, 12).
-/
import Derived.Test.Qxb6602900aJoin
namespace Go.Proofs.Qxb6602900a
open Go.RowKit
set_option linter.unusedVariables false

/-- What is read of a slice of strings. -/
structure Texts (w : World) (ao : Option Addr) (n : Nat) (X : Nat → ByteArray) : Prop where
  none : ao = none → n = 0
  cell : ∀ b, ao = some b → ∀ r, r < n → w.cell? (b.add r) = some (.string (X r))

theorem Texts.later {w wr : World} {ao : Option Addr} {n : Nat} {X : Nat → ByteArray} (h : Texts w ao n X) (hb : Below w.heap.size w wr) : Texts wr ao n X :=
  ⟨h.none, fun b e r hr => by
    have hc := h.cell b e r hr
    exact (hb.cell (World.block_lt_of_cell? w _ hc)).trans hc⟩

/-- What has been copied behind k rounds. -/
def half (cs : List Value) (z : Value) (k : Nat) : List Value := cs.take k ++ List.replicate (cs.length - k) z

theorem half_zero (cs : List Value) (z : Value) : half cs z 0 = List.replicate cs.length z := by simp [half]
theorem half_all (cs : List Value) (z : Value) : half cs z cs.length = cs := by simp [half]
theorem half_set (cs : List Value) (z u : Value) (k : Nat) (hk : cs[k]? = some u) : (half cs z k).set k u = half cs z (k + 1) := by
  obtain ⟨hlt, rfl⟩ := List.getElem?_eq_some_iff.1 hk
  apply List.ext_getElem?
  intro i
  have hl : (List.take k cs).length = k := by simp; omega
  simp only [half, List.getElem?_set, List.getElem?_append, List.length_append, List.length_take, List.length_replicate, List.getElem?_take, List.getElem?_replicate]
  by_cases h1 : k = i
  · subst h1
    have : min k cs.length + (cs.length - k) = cs.length := by omega
    simp [this, hlt, Nat.min_eq_left (Nat.succ_le_of_lt hlt)]
  · simp only [h1, if_false]
    by_cases h2 : i < k
    · simp [h2, Nat.lt_succ_of_lt h2, Nat.min_eq_left (Nat.le_of_lt hlt), Nat.min_eq_left (Nat.succ_le_of_lt hlt)]
    · have h3 : ¬ i < k + 1 := by omega
      simp [h2, h3, Nat.min_eq_left (Nat.le_of_lt hlt), Nat.min_eq_left (Nat.succ_le_of_lt hlt)]
      by_cases h4 : i < cs.length
      · rw [if_pos (by omega), if_pos (by omega)]
      · rw [if_neg (by omega), if_neg (by omega)]

/-- The round's step on the world: the k-th cell is stored. -/
theorem clone_step {w wr : World} {e : TypeId} {B n : Nat} {cs : List Value} {z u : Value} {k : Nat} (hB : w.heap.size ≤ B)
    (hown : wr.ownsRow w.heap.size e 1 (.slice (some ⟨B, 0, none⟩) n n) n (half cs z k)) (hb : Below w.heap.size w wr) (hk : cs[k]? = some u) :
    (wr.setCell ⟨B, k, none⟩ u).ownsRow w.heap.size e 1 (.slice (some ⟨B, 0, none⟩) n n) n (half cs z (k + 1)) ∧ Below w.heap.size w (wr.setCell ⟨B, k, none⟩ u) := by
  have h := (hown.stored k u).1
  rw [half_set cs z u k hk] at h
  exact ⟨h, hb.setCell (by exact hB) u⟩

theorem half_cell (cs : List Value) (z : Value) (k : Nat) (hk : k < cs.length) : ∃ v, (half cs z k)[k]? = some v := by
  have : k < (half cs z k).length := by simp [half]; omega
  exact ⟨_, List.getElem?_eq_getElem this⟩

theorem info9 : (Try.prog.info? 9).map (fun i => (i.zero, i.size, i.bytes)) = some (some (.string ByteArray.empty), 1, 16) := by kernel_rfl

/-- The cells of the first n strings. -/
def strCells (n : Nat) (X : Nat → ByteArray) : List Value := (List.range n).map fun r => .string (X r)

theorem strCells_get {n r : Nat} (X : Nat → ByteArray) (h : r < n) : (strCells n X)[r]? = some (.string (X r)) := by
  simp [strCells, List.getElem?_map, List.getElem?_range h]

theorem strCells_length (n : Nat) (X : Nat → ByteArray) : (strCells n X).length = n := by simp [strCells]

set_option maxHeartbeats 400000 in
theorem copy_any (ao : Option Addr) (n cap : Nat) (X : Nat → ByteArray) (w : World) (hs : Texts w ao n X) (hn : n ≤ 1048576) :
    Calls Try.prog 9 #[.slice ao n cap] w fun e w' => ∃ ao', e = .returned (.slice ao' n n) ∧ Texts w' ao' n X ∧ Below w.heap.size w w' := by
  have q22 : ∀ (w : World) (a : Option Addr) (n c n' c' : Nat), (binOp .eql 22 (.slice a n c) (.slice none n' c')).run Try.prog w = .ok (.bool a.isNone) w := fun w a n c n' c' => Lib.run_eql_slice_nil w _ _ a n c n' c' Try.underlying22
  obtain ⟨i0, hi, hz0, hz1, hz2⟩ := info_parts info9
  obtain ⟨h0, hc⟩ := hs
  cases ao with
  | none =>
    have hn0 := h0 rfl
    subst hn0
    have HT : Hid (Texts w none 0 X) := ⟨fun _ => rfl, fun b h => by cases h⟩
    clear hc h0
    go_enter Try.func9, Try.ntmps9
    go_wp2
    go_ret
    exact ⟨none, rfl, HT.out, Below.refl _ _⟩
  | some b =>
    have hc' := hide (hc b rfl)
    clear hc h0
    go_enter Try.func9, Try.ntmps9
    go_wp2_with (at_make; refine wpList_make_full _ rfl _ _ 22 rfl w.heap.size 9 i0 (.string ByteArray.empty) 1 Try.underlying22 hi hz0 hz1 _ _ _ _ n rfl rfl rfl rfl (by rw [hz2]; omega) (by unfold maxLen; omega) (Nat.le_refl _) ?_)
    intro w1 hown hgrow
    have hown0 : w1.ownsRow w.heap.size 9 1 (.slice (some ⟨w.heap.size, 0, none⟩) n n) n (half (strCells n X) (.string ByteArray.empty) 0) := by
      rw [half_zero, strCells_length]
      rwa [toList_madeCells_one] at hown
    have hbel : Below w.heap.size w w1 := (Below.refl _ _).grown hgrow (Nat.le_refl _) (by simp)
    clear hown hgrow
    go_wp2
    go_loopw [4] (fun i wr => ∃ k : Nat, k ≤ n ∧ i = .int .i64 k ∧ wr.ownsRow w.heap.size 9 1 (.slice (some ⟨w.heap.size, 0, none⟩) n n) n (half (strCells n X) (.string ByteArray.empty) k) ∧ Below w.heap.size w wr) (fun i _ => n - (intOf i).toNat)
    case atStart => exact ⟨0, Nat.zero_le _, rfl, hown0, hbel⟩
    case round =>
      obtain ⟨k, hk, rfl, hown, hb⟩ := hrel
      clear hown0 hbel
      by_cases hlt : k < n
      · have hcs := strCells_get X hlt
        have c1 := hc'.out k hlt
        have c2 : wr.cell? (b.add k) = some (.string (X k)) := (hb.cell (World.block_lt_of_cell? w _ c1)).trans c1
        obtain ⟨v, hv⟩ := half_cell (strCells n X) (.string ByteArray.empty) k (by rw [strCells_length]; exact hlt)
        have c3 : wr.cell? ⟨w.heap.size, k, none⟩ = some v := (hown.cellAt k (by omega)).trans hv
        have c4 : wr.frozen? ⟨w.heap.size, k, none⟩ = false := hown.frozenAt k
        have HR := hide (clone_step (Nat.le_refl _) hown hb hcs)
        clear hown hv c1 hcs
        generalize X k = x at *
        go_wp2
        go_roundw
        case rel => exact ⟨k + 1, by omega, by go_num, HR.out.1, HR.out.2⟩
        case measure => simp [intOf]; omega
      · have hkn : Hid (k = n) := by have : k = n := by omega
                                     exact this
        go_wp2
        go_ret
        refine ⟨_, rfl, ?_, hb⟩
        have e : half (strCells n X) (.string ByteArray.empty) k = strCells n X := by
          have h := half_all (strCells n X) (.string ByteArray.empty)
          rw [strCells_length] at h
          rw [hkn.out]
          exact h
        rw [e] at hown
        refine ⟨(fun h => by cases h), fun b' hb' r hr => ?_⟩
        cases hb'
        exact hown.cells (g := w.heap.size) rfl r _ (strCells_get X hr)

set_option maxHeartbeats 400000 in
theorem strBytes_any (ao : Option Addr) (n cap : Nat) (X : Nat → ByteArray) (w : World) (ht : Texts w ao n X) (hm : ∀ r, r < n → (X r).size ≤ 9223372036854775807) (hl : n ≤ 9223372036854775807) :
    Calls Try.prog 8 #[.slice ao n cap] w fun e w' => ∃ x : Int, e = .returned (.int .i64 x) ∧ w' = w ∧ 0 ≤ x ∧ x ≤ 1048577 := by
  have T := hide ht
  have M := hide hm
  clear ht hm
  go_enter Try.func8, Try.ntmps8
  go_wp2
  go_loop [3, 4] (fun t i => ∃ k : Nat, k ≤ n ∧ i = .int .i64 k ∧ ∃ x : Int, 0 ≤ x ∧ x ≤ 1048576 ∧ t = .int .i64 x) (fun _ i => n - (intOf i).toNat)
  case atStart => exact ⟨0, Nat.zero_le _, rfl, 0, by omega, by omega, rfl⟩
  case round =>
    obtain ⟨k, hk, rfl, x, hx, hy, rfl⟩ := hrel
    by_cases hlt : k < n
    case pos =>
      cases hao : ao with
      | none => exact absurd (T.out.none hao) (by omega)
      | some tb =>
        have hck := T.out.cell tb hao k hlt
        have hbk := M.out k hlt
        clear hao
        obtain ⟨s, HSs⟩ : ∃ s, Hid (X k = s) := ⟨_, rfl⟩
        rw [HSs.out] at hck hbk
        by_cases hb1 : s.size ≤ 1048576
        · by_cases hb2 : x + (16 + s.size) ≤ 1048576
          · go_wp2
            go_round
            case rel => exact ⟨k + 1, by omega, by go_num, x + (16 + s.size), by omega, by omega, by go_num⟩
            case measure => simp [intOf]; omega
          · go_wp2
            go_ret
            exact ⟨_, rfl, rfl, by omega, by omega⟩
        · go_wp2
          go_ret
          exact ⟨_, rfl, rfl, by omega, by omega⟩
    go_wp2
    go_ret
    exact ⟨_, rfl, rfl, by omega, by omega⟩

/-- A test that leaves the world alone. -/
def AnyBool (w : World) (e : Ending) (w' : World) : Prop := ∃ b, e = .returned (.bool b) ∧ w' = w

set_option maxRecDepth 100000 in
set_option maxHeartbeats 4000000 in
theorem zz12_any (a0 a1 a2 a3 : Option Addr) (n0 n1 n2 n3 c0 c1 c2 c3 : Nat) (X0 X1 X2 X3 : Nat → ByteArray) (w : World) (t0 : Texts w a0 n0 X0) (t1 : Texts w a1 n1 X1) (t2 : Texts w a2 n2 X2) (t3 : Texts w a3 n3 X3)
    (m0 : ∀ r, r < n0 → (X0 r).size ≤ 9223372036854775807) (m1 : ∀ r, r < n1 → (X1 r).size ≤ 9223372036854775807) (m2 : ∀ r, r < n2 → (X2 r).size ≤ 9223372036854775807) (m3 : ∀ r, r < n3 → (X3 r).size ≤ 9223372036854775807)
    (l0 : n0 ≤ 9223372036854775807) (l1 : n1 ≤ 9223372036854775807) (l2 : n2 ≤ 9223372036854775807) (l3 : n3 ≤ 9223372036854775807) :
    Calls Try.prog 12 #[.slice a0 n0 c0, .slice a1 n1 c1, .slice a2 n2 c2, .slice a3 n3 c3] w (AnyBool w) := by
  have T0 := hide t0
  have T1 := hide t1
  have T2 := hide t2
  have T3 := hide t3
  have M0 := hide m0
  have M1 := hide m1
  have M2 := hide m2
  have M3 := hide m3
  clear t0 t1 t2 t3 m0 m1 m2 m3
  by_cases b0 : n0 ≤ 1048576
  case neg =>
    go_enter Try.func12, Try.ntmps12
    go_wp2
    go_ret
    exact ⟨_, rfl, rfl⟩
  go_enter Try.func12, Try.ntmps12
  go_wp2
  go_loop [9, 10] (fun t i => ∃ k : Nat, k ≤ n0 ∧ i = .int .i64 k ∧ ∃ x : Int, 0 ≤ x ∧ x ≤ 1048576 ∧ t = .int .i64 x) (fun _ i => n0 - (intOf i).toNat)
  case atStart => exact ⟨0, Nat.zero_le _, rfl, (n0 : Int), by omega, by omega, by first | rfl | go_num⟩
  case round =>
    obtain ⟨k0, hk0, rfl, x0, hx0, hy0, rfl⟩ := hrel
    by_cases hlt0 : k0 < n0
    case pos =>
      cases hao : a0 with
      | none => exact absurd (T0.out.none hao) (by omega)
      | some tb =>
        have hck := T0.out.cell tb hao k0 hlt0
        have hbk := M0.out k0 hlt0
        clear hao
        obtain ⟨s, HSs⟩ : ∃ s, Hid (X0 k0 = s) := ⟨_, rfl⟩
        rw [HSs.out] at hck hbk
        by_cases hb1 : s.size ≤ 1048576
        · by_cases hb2 : x0 + s.size ≤ 1048576
          · go_wp2
            go_round
            case rel => exact ⟨k0 + 1, by omega, by go_num, x0 + s.size, by omega, by omega, by go_num⟩
            case measure => simp [intOf]; omega
          · go_wp2
            go_ret
            exact ⟨_, rfl, rfl⟩
        · go_wp2
          go_ret
          exact ⟨_, rfl, rfl⟩
    by_cases b1 : n1 ≤ 1048576
    case neg =>
      go_wp2
      go_ret
      exact ⟨_, rfl, rfl⟩
    by_cases s1 : x0 + n1 ≤ 1048576
    case neg =>
      go_wp2
      go_ret
      exact ⟨_, rfl, rfl⟩
    go_wp2
    go_loop [9, 11] (fun t i => ∃ k : Nat, k ≤ n1 ∧ i = .int .i64 k ∧ ∃ x : Int, 0 ≤ x ∧ x ≤ 1048576 ∧ t = .int .i64 x) (fun _ i => n1 - (intOf i).toNat)
    case atStart => exact ⟨0, Nat.zero_le _, rfl, x0 + n1, by omega, by omega, by first | rfl | go_num⟩
    case round =>
      obtain ⟨k1, hk1, rfl, x1, hx1, hy1, rfl⟩ := hrel
      by_cases hlt1 : k1 < n1
      case pos =>
        cases hao : a1 with
        | none => exact absurd (T1.out.none hao) (by omega)
        | some tb =>
          have hck := T1.out.cell tb hao k1 hlt1
          have hbk := M1.out k1 hlt1
          clear hao
          obtain ⟨s, HSs⟩ : ∃ s, Hid (X1 k1 = s) := ⟨_, rfl⟩
          rw [HSs.out] at hck hbk
          by_cases hb1 : s.size ≤ 1048576
          · by_cases hb2 : x1 + s.size ≤ 1048576
            · go_wp2
              go_round
              case rel => exact ⟨k1 + 1, by omega, by go_num, x1 + s.size, by omega, by omega, by go_num⟩
              case measure => simp [intOf]; omega
            · go_wp2
              go_ret
              exact ⟨_, rfl, rfl⟩
          · go_wp2
            go_ret
            exact ⟨_, rfl, rfl⟩
      by_cases b2 : n2 ≤ 1048576
      case neg =>
        go_wp2
        go_ret
        exact ⟨_, rfl, rfl⟩
      by_cases s2 : x1 + n2 ≤ 1048576
      case neg =>
        go_wp2
        go_ret
        exact ⟨_, rfl, rfl⟩
      go_wp2
      go_loop [9, 12] (fun t i => ∃ k : Nat, k ≤ n2 ∧ i = .int .i64 k ∧ ∃ x : Int, 0 ≤ x ∧ x ≤ 1048576 ∧ t = .int .i64 x) (fun _ i => n2 - (intOf i).toNat)
      case atStart => exact ⟨0, Nat.zero_le _, rfl, x1 + n2, by omega, by omega, by first | rfl | go_num⟩
      case round =>
        obtain ⟨k2, hk2, rfl, x2, hx2, hy2, rfl⟩ := hrel
        by_cases hlt2 : k2 < n2
        case pos =>
          cases hao : a2 with
          | none => exact absurd (T2.out.none hao) (by omega)
          | some tb =>
            have hck := T2.out.cell tb hao k2 hlt2
            have hbk := M2.out k2 hlt2
            clear hao
            obtain ⟨s, HSs⟩ : ∃ s, Hid (X2 k2 = s) := ⟨_, rfl⟩
            rw [HSs.out] at hck hbk
            by_cases hb1 : s.size ≤ 1048576
            · by_cases hb2 : x2 + s.size ≤ 1048576
              · go_wp2
                go_round
                case rel => exact ⟨k2 + 1, by omega, by go_num, x2 + s.size, by omega, by omega, by go_num⟩
                case measure => simp [intOf]; omega
              · go_wp2
                go_ret
                exact ⟨_, rfl, rfl⟩
            · go_wp2
              go_ret
              exact ⟨_, rfl, rfl⟩
        by_cases b3 : n3 ≤ 1048576
        case neg =>
          go_wp2
          go_ret
          exact ⟨_, rfl, rfl⟩
        by_cases s3 : x2 + n3 ≤ 1048576
        case neg =>
          go_wp2
          go_ret
          exact ⟨_, rfl, rfl⟩
        go_wp2
        go_loop [9, 13] (fun t i => ∃ k : Nat, k ≤ n3 ∧ i = .int .i64 k ∧ ∃ x : Int, 0 ≤ x ∧ x ≤ 1048576 ∧ t = .int .i64 x) (fun _ i => n3 - (intOf i).toNat)
        case atStart => exact ⟨0, Nat.zero_le _, rfl, x2 + n3, by omega, by omega, by first | rfl | go_num⟩
        case round =>
          obtain ⟨k3, hk3, rfl, x3, hx3, hy3, rfl⟩ := hrel
          by_cases hlt3 : k3 < n3
          case pos =>
            cases hao : a3 with
            | none => exact absurd (T3.out.none hao) (by omega)
            | some tb =>
              have hck := T3.out.cell tb hao k3 hlt3
              have hbk := M3.out k3 hlt3
              clear hao
              obtain ⟨s, HSs⟩ : ∃ s, Hid (X3 k3 = s) := ⟨_, rfl⟩
              rw [HSs.out] at hck hbk
              by_cases hb1 : s.size ≤ 1048576
              · by_cases hb2 : x3 + s.size ≤ 1048576
                · go_wp2
                  go_round
                  case rel => exact ⟨k3 + 1, by omega, by go_num, x3 + s.size, by omega, by omega, by go_num⟩
                  case measure => simp [intOf]; omega
                · go_wp2
                  go_ret
                  exact ⟨_, rfl, rfl⟩
              · go_wp2
                go_ret
                exact ⟨_, rfl, rfl⟩
          go_wp2
          go_ret
          exact ⟨_, rfl, rfl⟩
end Go.Proofs.Qxb6602900a

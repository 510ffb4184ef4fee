/-
  Slices of byte slices, as the lookup law reads them; the two tests on sizes (21, 22).
-/
import Derived.Test.Qxb6601094aClone
namespace Go.Proofs.Qxb6601094a
open Go.RowKit

/-- The cells that hold the bytes l. -/
def bc (l : List UInt8) : List Value := l.map fun b => .int .u8 b.toNat

theorem bc_length (l : List UInt8) : (bc l).length = l.length := by simp [bc]

theorem bc_get {l : List UInt8} {k : Nat} (h : k < l.length) : (bc l)[k]? = some (.int .u8 (l.getD k 0).toNat) := by
  simp [bc, List.getD_eq_getElem?_getD, List.getElem?_eq_getElem h]

/-- What is read of a slice of byte slices: n slices; slice r has L r bytes, which are S r. -/
structure Names (w : World) (ao : Option Addr) (n : Nat) (A : Nat → Option Addr) (L C : Nat → Nat) (S : Nat → List UInt8) : Prop where
  none : ao = none → n = 0
  cell : ∀ b, ao = some b → ∀ r, r < n → w.cell? (b.add r) = some (.slice (A r) (L r) (C r))
  row : ∀ r, r < n → Src w (A r) (L r) (bc (S r))
  big : ∀ r, r < n → L r ≤ 9223372036854775807

theorem Names.later {w wr : World} {ao : Option Addr} {n : Nat} {A : Nat → Option Addr} {L C : Nat → Nat} {S : Nat → List UInt8} (h : Names w ao n A L C S) (hb : Below w.heap.size w wr) : Names wr ao n A L C S :=
  ⟨h.none, fun b e r hr => by
    have hc := h.cell b e r hr
    exact (hb.cell (World.block_lt_of_cell? w _ hc)).trans hc, fun r hr => (h.row r hr).later hb, h.big⟩

/-- All is at most 1048576 long. -/
def Sizes (n m : Nat) (L : Nat → Nat) : Prop := n ≤ 1048576 ∧ m ≤ 1048576 ∧ ∀ r, r < n → L r ≤ 1048576

/-- A test that leaves the world alone, and what its yes says. -/
def TestEnd (Q : Prop) (w : World) (e : Ending) (w' : World) : Prop := ∃ b, e = .returned (.bool b) ∧ w' = w ∧ (b = true → Q)

theorem TestEnd.yes {Q : Prop} {w : World} (h : Q) : TestEnd Q w (.returned (.bool true)) w := ⟨true, rfl, rfl, fun _ => h⟩
theorem TestEnd.no {Q : Prop} {w : World} : TestEnd Q w (.returned (.bool false)) w := ⟨false, rfl, rfl, fun h => by cases h⟩

set_option maxHeartbeats 400000 in
theorem zz21_any (ao : Option Addr) (n cap : Nat) (A : Nat → Option Addr) (L C : Nat → Nat) (S : Nat → List UInt8) (s : ByteArray) (w : World) (hs : Names w ao n A L C S) (hn : n ≤ maxLen) (hl : s.size ≤ maxLen) :
    Calls Try.prog 21 #[.slice ao n cap, .string s] w (TestEnd (Sizes n s.size L) w) := by
  unfold maxLen at hn hl
  obtain ⟨h0, hc, _, hbig⟩ := hs
  by_cases hn1 : n ≤ 1048576
  · have h0' : ao = none → Hid (n ≤ 0) := fun h => Nat.le_of_eq (h0 h)
    clear h0
    cases ao with
    | none =>
      have hn0 := h0' rfl
      clear hc h0'
      go_enter Try.func21, Try.ntmps21
      go_wp2
      go_loop [5, 6] (fun t i => ∃ k : Nat, k ≤ n ∧ i = .int .i64 k ∧ ∃ x : Int, 0 ≤ x ∧ x ≤ 1048576 ∧ t = .int .i64 x) (fun _ i => n - (intOf i).toNat)
      case atStart => exact ⟨0, Nat.zero_le _, rfl, n, by omega, by omega, by simp⟩
      case round =>
        obtain ⟨k, hk, rfl, x, hx0, hx1, rfl⟩ := hrel
        have hlt : ¬ k < n := by have := hn0.out; omega
        by_cases hs1 : s.size ≤ 1048576
        · go_wp2
          all_goals (go_ret; first | exact TestEnd.no | exact TestEnd.yes ⟨hn1, hs1, fun r hr => by have := hn0.out; omega⟩)
        · go_wp2
          go_ret
          exact TestEnd.no
    | some b =>
      have hc' := hc b rfl
      clear hc h0'
      go_enter Try.func21, Try.ntmps21
      go_wp2
      go_loop [5, 6] (fun t i => ∃ k : Nat, k ≤ n ∧ i = .int .i64 k ∧ (∃ x : Int, 0 ≤ x ∧ x ≤ 1048576 ∧ t = .int .i64 x) ∧ ∀ r, r < k → L r ≤ 1048576) (fun _ i => n - (intOf i).toNat)
      case atStart => exact ⟨0, Nat.zero_le _, rfl, ⟨n, by omega, by omega, by simp⟩, fun r hr => by omega⟩
      case round =>
        obtain ⟨k, hk, rfl, ⟨x, hx0, hx1, rfl⟩, hr⟩ := hrel
        by_cases hlt : k < n
        · have hck := hc' k hlt
          have hbk := hbig k hlt
          have HR := hide hr
          clear hr hc' hbig
          generalize A k = Ak at *
          generalize hL : L k = Lk at *
          generalize C k = Ck at *
          have HL := hide hL
          clear hL
          by_cases hb1 : Lk ≤ 1048576
          · by_cases hb2 : x + Lk ≤ 1048576
            · go_wp2
              go_round
              case rel =>
                refine ⟨k + 1, by omega, by go_num, ⟨x + Lk, by omega, by omega, by go_num⟩, ?_⟩
                intro r hr
                by_cases h : r < k
                · exact HR.out r h
                · have : r = k := by omega
                  rw [this, HL.out]; exact hb1
              case measure => simp [intOf]; omega
            · go_wp2
              go_ret
              exact TestEnd.no
          · go_wp2
            go_ret
            exact TestEnd.no
        · have HR : Hid (∀ r, r < n → L r ≤ 1048576) := fun r h => hr r (by omega)
          clear hr hc' hbig
          by_cases hs1 : s.size ≤ 1048576
          · go_wp2
            all_goals (go_ret; first | exact TestEnd.no | exact TestEnd.yes ⟨hn1, hs1, HR.out⟩)
          · go_wp2
            go_ret
            exact TestEnd.no
  · clear h0 hc hbig
    go_enter Try.func21, Try.ntmps21
    go_wp2
    go_ret
    exact TestEnd.no

/-- A test that leaves the world alone, and what its no says. -/
def TestNot (Q : Prop) (w : World) (e : Ending) (w' : World) : Prop := ∃ b, e = .returned (.bool b) ∧ w' = w ∧ (b = false → Q)

theorem TestNot.yes {Q : Prop} {w : World} : TestNot Q w (.returned (.bool true)) w := ⟨true, rfl, rfl, fun h => by cases h⟩
theorem TestNot.of {Q : Prop} {w : World} {b : Bool} (h : Q) : TestNot Q w (.returned (.bool b)) w := ⟨b, rfl, rfl, fun _ => h⟩

def Fits (n : Nat) : Prop := n ≤ 65536

set_option maxHeartbeats 400000 in
theorem lkTooBig_any (ao : Option Addr) (n cap : Nat) (A : Nat → Option Addr) (L C : Nat → Nat) (S : Nat → List UInt8) (s : ByteArray) (w : World) (hs : Names w ao n A L C S) (hz : Sizes n s.size L) :
    Calls Try.prog 22 #[.slice ao n cap, .string s] w (TestNot (Fits n) w) := by
  obtain ⟨h0, hc, _, _⟩ := hs
  obtain ⟨z1, z2, z3⟩ := hz
  by_cases hn1 : n ≤ 65536
  · have h0' : ao = none → Hid (n ≤ 0) := fun h => Nat.le_of_eq (h0 h)
    clear h0
    cases ao with
    | none =>
      have hn0 := h0' rfl
      clear hc h0' z3
      go_enter Try.func22, Try.ntmps22
      go_wp2
      go_loop [5, 6] (fun t i => ∃ k : Nat, k ≤ n ∧ i = .int .i64 k ∧ ∃ x : Int, 0 ≤ x ∧ x ≤ 3000000 ∧ t = .int .i64 x) (fun _ i => n - (intOf i).toNat)
      case atStart => exact ⟨0, Nat.zero_le _, rfl, _, by omega, by omega, rfl⟩
      case round =>
        obtain ⟨k, hk, rfl, x, hx0, hx1, rfl⟩ := hrel
        have hlt : ¬ k < n := by have := hn0.out; omega
        go_wp2
        go_ret
        exact TestNot.of hn1
    | some b =>
      have hc' := hc b rfl
      clear hc h0'
      go_enter Try.func22, Try.ntmps22
      go_wp2
      go_loop [5, 6] (fun t i => ∃ k : Nat, k ≤ n ∧ i = .int .i64 k ∧ ∃ x : Int, 0 ≤ x ∧ x ≤ 3000000 ∧ t = .int .i64 x) (fun _ i => n - (intOf i).toNat)
      case atStart => exact ⟨0, Nat.zero_le _, rfl, _, by omega, by omega, rfl⟩
      case round =>
        obtain ⟨k, hk, rfl, x, hx0, hx1, rfl⟩ := hrel
        by_cases hlt : k < n
        · have hck := hc' k hlt
          have hbk := z3 k hlt
          clear z3 hc'
          generalize A k = Ak at *
          generalize L k = Lk at *
          generalize C k = Ck at *
          by_cases hb2 : x + Lk ≤ 1048576
          · go_wp2
            go_round
            case rel => exact ⟨k + 1, by omega, by go_num, x + Lk, by omega, by omega, by go_num⟩
            case measure => simp [intOf]; omega
          · go_wp2
            go_ret
            exact TestNot.yes
        · clear hc' z3
          go_wp2
          go_ret
          exact TestNot.of hn1
  · clear h0 hc z3
    go_enter Try.func22, Try.ntmps22
    go_wp2
    go_ret
    exact TestNot.yes
end Go.Proofs.Qxb6601094a

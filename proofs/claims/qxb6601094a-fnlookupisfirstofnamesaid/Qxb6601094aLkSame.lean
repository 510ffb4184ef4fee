/-
  lkSame (25): a byte slice against a string.
-/
import Derived.Test.Qxb6601094aLkBase
import Derived.Deep.QuietTactic
import Derived.BigQuiet
namespace Go.Proofs.Qxb6601094a
open Go.RowKit
set_option linter.unusedVariables false

/-- Are the bytes l the string s? -/
def sameB (l : List UInt8) (s : ByteArray) : Bool := decide (l = s.data.toList)

theorem sameB_false {l : List UInt8} {s : ByteArray} (k : Nat) (hk : k < l.length) (hs : k < s.size) (h : (l.getD k 0).toNat ≠ s[k].toNat) : sameB l s = false := by
  unfold sameB
  simp only [decide_eq_false_iff_not]
  rintro rfl
  apply h
  have : k < s.data.toList.length := hk
  simp only [List.getD_eq_getElem?_getD, List.getElem?_eq_getElem this, Option.getD_some]
  rfl

theorem sameB_len {l : List UInt8} {s : ByteArray} (h : l.length ≠ s.size) : sameB l s = false := by
  unfold sameB
  simp only [decide_eq_false_iff_not]
  rintro rfl
  exact h rfl

theorem sameB_true {l : List UInt8} {s : ByteArray} (hl : l.length = s.size) (h : ∀ j, j < l.length → (l.getD j 0).toNat = (s.data.toList.getD j 0).toNat) : sameB l s = true := by
  unfold sameB
  simp only [decide_eq_true_eq]
  apply List.ext_getElem hl
  intro i h1 h2
  have := h i h1
  simp only [List.getD_eq_getElem?_getD, List.getElem?_eq_getElem h1, List.getElem?_eq_getElem h2, Option.getD_some] at this
  exact UInt8.toNat_inj.1 this

theorem getD_data (s : ByteArray) (k : Nat) (hk : k < s.size) : s.data.toList.getD k 0 = s[k] := by
  have : k < s.data.toList.length := hk
  simp only [List.getD_eq_getElem?_getD, List.getElem?_eq_getElem this, Option.getD_some]
  rfl

set_option maxHeartbeats 400000 in
theorem lkSame_some (b : Addr) (n cap : Nat) (l : List UInt8) (s : ByteArray) (w : World) (hs : Src w (some b) n (bc l)) (hn : n ≤ 1048576) (hl : s.size ≤ 1048576) (hlen : n = s.size) :
    Calls Try.prog 25 #[.slice (some b) n cap, .string s] w fun e w' => e = .returned (.bool (sameB l s)) ∧ Below w.heap.size w w' := by
  obtain ⟨h1, h2, h3⟩ := hs
  have h3' := h3 b rfl
  have HL : Hid (l.length = n) := by rw [bc_length] at h1; exact h1
  have HN := hide hlen
  have hle : n ≤ s.size ∧ s.size ≤ n := by omega
  obtain ⟨hle1, hle2⟩ := hle
  clear h1 h2 h3 hlen
  go_enter Try.func25, Try.ntmps25
  go_wp2
  go_loopw [5] (fun i wr => ∃ k : Nat, k ≤ n ∧ i = .int .i64 k ∧ (∀ j, j < k → (l.getD j 0).toNat = (s.data.toList.getD j 0).toNat) ∧ Below w.heap.size w wr) (fun i _ => n - (intOf i).toNat)
  case atStart => exact ⟨0, Nat.zero_le _, rfl, fun j h => by omega, Below.refl _ _⟩
  case round =>
    obtain ⟨k, hk, rfl, heq, hb⟩ := hrel
    have HE := hide heq
    clear heq
    by_cases hlt : k < n
    · have hkl : k < l.length := by have := HL.out; omega
      have c0 := h3' k _ (bc_get hkl)
      have c1 : wr.cell? (b.add k) = some (.int .u8 (l.getD k 0).toNat) := (hb.cell (World.block_lt_of_cell? w _ c0)).trans c0
      have hks : k < s.size := by omega
      have hgd := hide (getD_data s k hks)
      clear c0 h3' hkl
      generalize hx : l.getD k 0 = x at *
      have HX := hide hx
      clear hx
      go_wp2
      go_quiet (fail)
      go_wp2
      · go_ret
        have hne : (↑x.toNat != (↑s[k].toNat : Int)) = true := by assumption
        refine ⟨?_, below_drewN hb _⟩
        rw [sameB_false k (by have := HL.out; omega) hks (by rw [HX.out]; intro h; rw [h] at hne; simp at hne)]
        rfl
      · have hne : (↑x.toNat != (↑s[k].toNat : Int)) = false := by assumption
        have hxy : x.toNat = s[k].toNat := by simp at hne; omega
        go_roundw
        case rel =>
          refine ⟨k + 1, by omega, by go_num, ?_, below_drewN hb _⟩
          intro j hj
          by_cases hjk : j < k
          · exact HE.out j hjk
          · have : j = k := by omega
            rw [this, HX.out, hgd.out, hxy]
        case measure => simp [intOf]; omega
    · go_wp2
      go_ret
      refine ⟨?_, hb⟩
      rw [sameB_true (by rw [HL.out, HN.out]) (fun j hj => HE.out j (by have := HL.out; omega))]
      rfl

theorem lkSame_any (ao : Option Addr) (n cap : Nat) (l : List UInt8) (s : ByteArray) (w : World) (hs : Src w ao n (bc l)) (hn : n ≤ 1048576) (hl : s.size ≤ 1048576) :
    Calls Try.prog 25 #[.slice ao n cap, .string s] w fun e w' => e = .returned (.bool (sameB l s)) ∧ Below w.heap.size w w' := by
  by_cases hlen : n = s.size
  · cases ao with
    | some b => exact lkSame_some b n cap l s w hs hn hl hlen
    | none =>
      have h0 : n = 0 := hs.2.1 rfl
      have hl0 : l.length = n := by have := hs.1; rwa [bc_length] at this
      have e := sameB_true (l := l) (s := s) (by omega) (fun j hj => by omega)
      rw [e]
      have h1 : n ≤ 0 ∧ s.size ≤ 0 := by omega
      obtain ⟨h2, h3⟩ := h1
      clear e hl0 h0 hs hlen
      go_enter Try.func25, Try.ntmps25
      go_wp2
      go_loop [5] (fun i => ∃ k : Nat, k ≤ n ∧ i = .int .i64 k) (fun i => n - (intOf i).toNat)
      case atStart => exact ⟨0, Nat.zero_le _, rfl⟩
      case round =>
        obtain ⟨k, hk, rfl⟩ := hrel
        go_wp2
        go_ret
        exact ⟨rfl, Below.refl _ _⟩
  · have hl0 : l.length = n := by have := hs.1; rwa [bc_length] at this
    have e := sameB_len (l := l) (s := s) (by omega)
    rw [e]
    clear e hl0 hs
    have hne : ((n : Int) != (s.size : Int)) = true := by rw [bne_iff_ne]; omega
    go_enter Try.func25, Try.ntmps25
    go_wp2
    go_ret
    exact ⟨rfl, Below.refl _ _⟩
end Go.Proofs.Qxb6601094a

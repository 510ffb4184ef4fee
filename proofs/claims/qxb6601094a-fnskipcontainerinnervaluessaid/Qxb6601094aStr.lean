/-
  sbHex (33), sbString (28).
-/
import Derived.Test.Qxb6601094aSpace
namespace Go.Proofs.Qxb6601094a
open Go.RowKit
set_option linter.unusedVariables false

/-- How one byte stands in a JSON string. -/
def esc1 (c : Int) : List Int := if c = 34 ∨ c = 92 then [92, c] else if c < 32 then [92, 117, 48, 48, hexd (c / 16), hexd (c % 16)] else [c]

/-- A JSON string of the bytes l. -/
def strB (l : List Int) : List Int := [34] ++ l.flatMap esc1 ++ [34]

theorem esc1_len (c : Int) : (esc1 c).length ≤ 6 := by
  unfold esc1
  split
  · simp
  · split <;> simp

theorem flat_len (l : List Int) : (l.flatMap esc1).length ≤ 6 * l.length := by
  induction l with
  | nil => simp
  | cons c l ih =>
    have := esc1_len c
    simp only [List.flatMap_cons, List.length_append, List.length_cons]
    omega

theorem strB_len (l : List Int) : (strB l).length ≤ 6 * l.length + 2 := by
  have := flat_len l
  simp only [strB, List.length_append, List.length_cons, List.length_nil]
  omega

theorem sbHex_any (d : Int) (w : World) (h0 : 0 ≤ d) (h1 : d < 16) : Calls Try.prog 33 #[.int .u8 d] w fun e w' => e = .returned (.int .u8 (hexd d)) ∧ w' = w := by
  by_cases h : d < 10
  · have e : hexd d = 48 + d := by simp [hexd, h]
    rw [e]
    clear e
    go_enter Try.func33, Try.ntmps33
    go_wp2
    go_ret
    exact ⟨rfl, rfl⟩
  · have e : hexd d = 97 + d - 10 := by simp [hexd, h]; omega
    rw [e]
    clear e
    go_enter Try.func33, Try.ntmps33
    go_wp2
    go_ret
    exact ⟨rfl, rfl⟩

theorem sb_getD (t : ByteArray) (k : Nat) (hk : k < t.size) : (sb t).getD k 0 = (t[k].toNat : Int) := by
  have : k < (sb t).length := by rw [sb_length]; exact hk
  simp only [List.getD_eq_getElem?_getD, List.getElem?_eq_getElem this, Option.getD_some]
  simp [sb]
  rfl

theorem take_flat (l : List Int) (k : Nat) (hk : k < l.length) : (l.take (k + 1)).flatMap esc1 = (l.take k).flatMap esc1 ++ esc1 (l.getD k 0) := by
  rw [List.take_succ_eq_append_getElem hk, List.flatMap_append]
  simp [List.getD_eq_getElem?_getD, List.getElem?_eq_getElem hk]

set_option maxHeartbeats 800000 in
theorem sbString_any (B : Nat) (ao : Option Addr) (n cap : Nat) (zs : List Int) (t : ByteArray) (w : World) (hd : Dat 5 .u8 B w ao n cap zs) (hn : n ≤ 70368744177664) (ht : t.size ≤ 1048576) :
    Calls Try.prog 28 #[.slice ao n cap, .string t] w (AppEnd B w ao zs (strB (sb t))) := by
  have hA := App.start hd
  have hz := hideA hd.2.1
  clear hd
  go_enter Try.func28, Try.ntmps28
  go_wp2_with (at_builtin; refine wpList_app _ 22 5 .u8 1 Try.underlying22 infoB _ rfl _ _ rfl B _ _ 1 _ _ [_] rfl rfl rfl rfl hA.dat (by omega) (by omega) ?_; intro ao' n' cap' w' hd hg hn1 hn2; have hA2 := hA.step hd hg; clear hA hd hg; have hA := hA2; clear hA2)
  go_loopw [0, 5] (fun v i wr => ∃ (k : Nat) (a1 : Option Addr) (n1 c1 : Nat), k ≤ t.size ∧ i = .int .i64 k ∧ v = .slice a1 n1 c1 ∧ App B w ao zs wr a1 n1 c1 ([34] ++ ((sb t).take k).flatMap esc1)) (fun _ i _ => t.size - (intOf i).toNat)
  case atStart => exact ⟨0, _, _, _, Nat.zero_le _, rfl, rfl, hA⟩
  case round =>
    obtain ⟨k, a1, n1, c1, hk, rfl, rfl, hB⟩ := hrel
    clear hA
    have hA := hB
    have hlen : n1 ≤ n + 6 * t.size + 1 := by
      have h1 := hA.len
      have h2 := flat_len ((sb t).take k)
      have h3 : ((sb t).take k).length ≤ k := List.length_take_le _ _
      simp only [List.length_append, List.length_cons, List.length_nil] at h1
      have h4 := hz.out
      omega
    by_cases hlt : k < t.size
    · have hg := sb_getD t k hlt
      have hfl := take_flat (sb t) k (by rw [sb_length]; exact hlt)
      rw [hg] at hfl
      have HF := hideA hfl
      clear hfl hg hB hz
      have hx0 : (0 : Int) ≤ (t[k].toNat : Int) := by omega
      have hx1 : (t[k].toNat : Int) < 256 := by have := t[k].toNat_lt; omega
      by_cases h34 : ((t[k].toNat : Int) == 34) = true
      · have he := hideA (show esc1 (t[k].toNat : Int) = [92, (t[k].toNat : Int)] by simp at h34; simp [esc1, h34])
        go_wp2_with (at_builtin; refine wpList_app _ 22 5 .u8 1 Try.underlying22 infoB _ rfl _ _ rfl B _ _ 2 _ _ [_, _] rfl rfl rfl rfl hA.dat (by omega) (by omega) ?_; intro ao' n' cap' w' hd hg hn3 hn4; have hA2 := hA.step hd hg; clear hA hd hg; have hA := hA2; clear hA2)
        go_roundw
        case rel => exact ⟨k + 1, _, _, _, by omega, by go_num, rfl, by rw [HF.out, he.out, ← List.append_assoc]; exact hA⟩
        case measure => simp [intOf]; omega
      · have h34' : ((t[k].toNat : Int) == 34) = false := by simpa using h34
        clear h34
        by_cases h92 : ((t[k].toNat : Int) == 92) = true
        · have he := hideA (show esc1 (t[k].toNat : Int) = [92, (t[k].toNat : Int)] by simp at h92; simp [esc1, h92])
          go_wp2_with (at_builtin; refine wpList_app _ 22 5 .u8 1 Try.underlying22 infoB _ rfl _ _ rfl B _ _ 2 _ _ [_, _] rfl rfl rfl rfl hA.dat (by omega) (by omega) ?_; intro ao' n' cap' w' hd hg hn3 hn4; have hA2 := hA.step hd hg; clear hA hd hg; have hA := hA2; clear hA2)
          go_roundw
          case rel => exact ⟨k + 1, _, _, _, by omega, by go_num, rfl, by rw [HF.out, he.out, ← List.append_assoc]; exact hA⟩
          case measure => simp [intOf]; omega
        · have h92' : ((t[k].toNat : Int) == 92) = false := by simpa using h92
          clear h92
          by_cases h32 : (t[k].toNat : Int) < 32
          · have he := hideA (show esc1 (t[k].toNat : Int) = [92, 117, 48, 48, hexd ((t[k].toNat : Int) / 16), hexd ((t[k].toNat : Int) % 16)] by simp at h34' h92'; simp [esc1, h34', h92', h32])
            have hbits := u8_and15 _ hx0 hx1
            have hd0 : (0 : Int) ≤ (t[k].toNat : Int) / 16 := by omega
            have hd1 : (t[k].toNat : Int) / 16 < 16 := by omega
            have hm0 : (0 : Int) ≤ (t[k].toNat : Int) % 16 := by omega
            have hm1 : (t[k].toNat : Int) % 16 < 16 := by omega
            go_wp2_with (first | (go_at_call 33; refine (sbHex_any _ _ (by first | exact hd0 | exact hm0) (by first | exact hd1 | exact hm1)).mono ?_; rintro e w3 ⟨rfl, hw3⟩; have hw4 := hw3.symm; subst hw4; clear hw3) | (at_builtin; refine wpList_app _ 22 5 .u8 1 Try.underlying22 infoB _ rfl _ _ rfl B _ _ 6 _ _ [_, _, _, _, _, _] rfl rfl rfl rfl hA.dat (by omega) (by omega) ?_; intro ao' n' cap' w' hd hg hn3 hn4; have hA2 := hA.step hd hg; clear hA hd hg; have hA := hA2; clear hA2))
            go_roundw
            case rel => exact ⟨k + 1, _, _, _, by omega, by go_num, rfl, by rw [HF.out, he.out, ← List.append_assoc]; exact hA⟩
            case measure => simp [intOf]; omega
          · have he := hideA (show esc1 (t[k].toNat : Int) = [(t[k].toNat : Int)] by simp at h34' h92'; simp [esc1, h34', h92', h32])
            go_wp2_with (at_builtin; refine wpList_app _ 22 5 .u8 1 Try.underlying22 infoB _ rfl _ _ rfl B _ _ 1 _ _ [_] rfl rfl rfl rfl hA.dat (by omega) (by omega) ?_; intro ao' n' cap' w' hd hg hn3 hn4; have hA2 := hA.step hd hg; clear hA hd hg; have hA := hA2; clear hA2)
            go_roundw
            case rel => exact ⟨k + 1, _, _, _, by omega, by go_num, rfl, by rw [HF.out, he.out, ← List.append_assoc]; exact hA⟩
            case measure => simp [intOf]; omega
    · have hks : Hid ((sb t).take k = sb t) := List.take_of_length_le (by rw [sb_length]; omega)
      clear hB hz
      go_wp2_with (at_builtin; refine wpList_app _ 22 5 .u8 1 Try.underlying22 infoB _ rfl _ _ rfl B _ _ 1 _ _ [_] rfl rfl rfl rfl hA.dat (by omega) (by omega) ?_; intro ao' n' cap' w' hd hg hn3 hn4; have hA2 := hA.step hd hg; clear hA hd hg; have hA := hA2; clear hA2)
      go_ret
      refine ⟨_, _, _, rfl, ?_⟩
      have := hA
      rw [hks.out] at this
      exact this
end Go.Proofs.Qxb6601094a

/-
  sbValue (29).
-/
import Derived.Test.Qxb6601094aStr
namespace Go.Proofs.Qxb6601094a
open Go.RowKit
set_option linter.unusedVariables false

def lit1 : List Int := [91, 49, 44, 123, 34, 120, 34, 58, 91, 93, 125, 44, 34, 93, 44, 92, 92, 34, 93]
def lit2 : List Int := [34, 121, 34, 58]
def lit3 : List Int := [45, 49, 50, 46, 53, 101, 51]
def lit4 : List Int := [110, 117, 108, 108]

def valB (k : Int) (t : List Int) (sp : Int) : List Int :=
  if k % 6 = 0 then strB t
  else if k % 6 = 1 then [91] ++ spc sp ++ strB t ++ spc sp ++ [44] ++ spc sp ++ strB t ++ spc sp ++ [93]
  else if k % 6 = 2 then [123] ++ spc sp ++ strB t ++ spc sp ++ [58] ++ spc sp ++ lit1 ++ spc sp ++ [44] ++ spc sp ++ lit2 ++ spc sp ++ strB t ++ spc sp ++ [125]
  else if k % 6 = 3 then (if k / 6 % 2 = 0 then [91] ++ spc sp ++ [93] else [123] ++ spc sp ++ [125])
  else if k % 6 = 4 then lit3 else lit4

/-- The items or fields of the value, or -1. -/
def cntB (k : Int) : Int := if k % 6 = 1 ∨ k % 6 = 2 then 2 else if k % 6 = 3 then 0 else -1

theorem App.le {B : Nat} {w0 w w' : World} {a0 ao ao' : Option Addr} {n cap n' cap' c : Nat} {zs out news : List Int} (h : App B w0 a0 zs w ao n cap out) (h' : App B w ao (zs ++ out) w' ao' n' cap' news) (hc : news.length ≤ c) : n' ≤ n + c := by
  have h1 := h.len
  have h2 := h'.len
  simp only [List.length_append] at h2
  omega

theorem str_le (t : ByteArray) : (strB (sb t)).length ≤ 6 * t.size + 2 := by
  have := strB_len (sb t)
  rwa [sb_length] at this

def ValEnd (B : Nat) (w0 : World) (a0 : Option Addr) (zs out : List Int) (c : Int) (e : Ending) (w : World) : Prop := ∃ ao n cap, e = .returned (.tuple #[.slice ao n cap, .int .i64 c]) ∧ App B w0 a0 zs w ao n cap out

theorem lz1 : (ByteArray.mk #[91, 49, 44, 123, 34, 120, 34, 58, 91, 93, 125, 44, 34, 93, 44, 92, 92, 34, 93]).size = 19 := rfl
theorem lz2 : (ByteArray.mk #[34, 121, 34, 58]).size = 4 := rfl
theorem lz3 : (ByteArray.mk #[45, 49, 50, 46, 53, 101, 51]).size = 7 := rfl
theorem lz4 : (ByteArray.mk #[110, 117, 108, 108]).size = 4 := rfl

set_option maxHeartbeats 800000 in
theorem val0 (B : Nat) (ao : Option Addr) (n cap : Nat) (zs : List Int) (k sp : Int) (t : ByteArray) (w : World) (hd : Dat 5 .u8 B w ao n cap zs) (hn : n ≤ 70000000000000) (ht : t.size ≤ 1048576) (hk0 : 0 ≤ k) (hk1 : k < 256) (h0 : (k % 6 == 0) = true) :
    Calls Try.prog 29 #[.slice ao n cap, .int .u8 k, .string t, .int .u8 sp] w (ValEnd B w ao zs (strB (sb t)) (-1)) := by
  have hA := App.start hd
  clear hd
  go_enter Try.func29, Try.ntmps29
  go_wp2_with (first | (go_at_call 27; refine (sbSpace_any B _ _ _ _ sp _ hA.dat (by omega)).mono ?_; rintro e w3 ⟨a3, n3, c3, rfl, hB⟩; have hl := hA.le hB (spc_len sp); have hA2 := hA.join hB; clear hA hB; have hA := hA2; clear hA2) | (go_at_call 28; refine (sbString_any B _ _ _ _ t _ hA.dat (by omega) ht).mono ?_; rintro e w3 ⟨a3, n3, c3, rfl, hB⟩; have hl := hA.le hB (str_le t); have hA2 := hA.join hB; clear hA hB; have hA := hA2; clear hA2) | (at_builtin; refine wpList_app _ 22 5 .u8 1 Try.underlying22 infoB _ rfl _ _ rfl B _ _ 1 _ _ [_] rfl rfl rfl rfl hA.dat (by omega) (by omega) ?_; intro ao' n' cap' w' hd hg hn3 hn4; have hA2 := hA.step hd hg; clear hA hd hg; have hA := hA2; clear hA2))
  go_ret2
  exact ⟨_, _, _, rfl, hA⟩

set_option maxHeartbeats 800000 in
theorem val1 (B : Nat) (ao : Option Addr) (n cap : Nat) (zs : List Int) (k sp : Int) (t : ByteArray) (w : World) (hd : Dat 5 .u8 B w ao n cap zs) (hn : n ≤ 70000000000000) (ht : t.size ≤ 1048576) (hk0 : 0 ≤ k) (hk1 : k < 256) (h0 : (k % 6 == 0) = false) (h1 : (k % 6 == 1) = true) :
    Calls Try.prog 29 #[.slice ao n cap, .int .u8 k, .string t, .int .u8 sp] w (ValEnd B w ao zs ([91] ++ spc sp ++ strB (sb t) ++ spc sp ++ [44] ++ spc sp ++ strB (sb t) ++ spc sp ++ [93]) (2)) := by
  have hA := App.start hd
  clear hd
  go_enter Try.func29, Try.ntmps29
  go_wp2_with (first | (go_at_call 27; refine (sbSpace_any B _ _ _ _ sp _ hA.dat (by omega)).mono ?_; rintro e w3 ⟨a3, n3, c3, rfl, hB⟩; have hl := hA.le hB (spc_len sp); have hA2 := hA.join hB; clear hA hB; have hA := hA2; clear hA2) | (go_at_call 28; refine (sbString_any B _ _ _ _ t _ hA.dat (by omega) ht).mono ?_; rintro e w3 ⟨a3, n3, c3, rfl, hB⟩; have hl := hA.le hB (str_le t); have hA2 := hA.join hB; clear hA hB; have hA := hA2; clear hA2) | (at_builtin; refine wpList_app _ 22 5 .u8 1 Try.underlying22 infoB _ rfl _ _ rfl B _ _ 1 _ _ [_] rfl rfl rfl rfl hA.dat (by omega) (by omega) ?_; intro ao' n' cap' w' hd hg hn3 hn4; have hA2 := hA.step hd hg; clear hA hd hg; have hA := hA2; clear hA2))
  go_ret2
  exact ⟨_, _, _, rfl, hA⟩

set_option maxHeartbeats 800000 in
theorem val2 (B : Nat) (ao : Option Addr) (n cap : Nat) (zs : List Int) (k sp : Int) (t : ByteArray) (w : World) (hd : Dat 5 .u8 B w ao n cap zs) (hn : n ≤ 70000000000000) (ht : t.size ≤ 1048576) (hk0 : 0 ≤ k) (hk1 : k < 256) (h0 : (k % 6 == 0) = false) (h1 : (k % 6 == 1) = false) (h2 : (k % 6 == 2) = true) :
    Calls Try.prog 29 #[.slice ao n cap, .int .u8 k, .string t, .int .u8 sp] w (ValEnd B w ao zs ([123] ++ spc sp ++ strB (sb t) ++ spc sp ++ [58] ++ spc sp ++ lit1 ++ spc sp ++ [44] ++ spc sp ++ lit2 ++ spc sp ++ strB (sb t) ++ spc sp ++ [125]) (2)) := by
  have hA := App.start hd
  clear hd
  go_enter Try.func29, Try.ntmps29
  go_wp2_with (first | (go_at_call 27; refine (sbSpace_any B _ _ _ _ sp _ hA.dat (by omega)).mono ?_; rintro e w3 ⟨a3, n3, c3, rfl, hB⟩; have hl := hA.le hB (spc_len sp); have hA2 := hA.join hB; clear hA hB; have hA := hA2; clear hA2) | (go_at_call 28; refine (sbString_any B _ _ _ _ t _ hA.dat (by omega) ht).mono ?_; rintro e w3 ⟨a3, n3, c3, rfl, hB⟩; have hl := hA.le hB (str_le t); have hA2 := hA.join hB; clear hA hB; have hA := hA2; clear hA2) | (at_builtin; refine wpList_app _ 22 5 .u8 1 Try.underlying22 infoB _ rfl _ _ rfl B _ _ 1 _ _ [_] rfl rfl rfl rfl hA.dat (by omega) (by omega) ?_; intro ao' n' cap' w' hd hg hn3 hn4; have hA2 := hA.step hd hg; clear hA hd hg; have hA := hA2; clear hA2) | (at_builtin; refine wpList_app_str _ 22 9 5 1 Try.underlying22 Try.underlying9 infoB rfl _ _ rfl B _ _ _ _ _ rfl rfl hA.dat (by simp only [lz1]; omega) (by simp only [lz1]; omega) ?_; intro ao' n' cap' w' hd hg hn3 hn4; simp only [lz1] at hn3 hn4; have hA2 := hA.step hd hg; clear hA hd hg; have hA := hA2; clear hA2) | (at_builtin; refine wpList_app_str _ 22 9 5 1 Try.underlying22 Try.underlying9 infoB rfl _ _ rfl B _ _ _ _ _ rfl rfl hA.dat (by simp only [lz2]; omega) (by simp only [lz2]; omega) ?_; intro ao' n' cap' w' hd hg hn3 hn4; simp only [lz2] at hn3 hn4; have hA2 := hA.step hd hg; clear hA hd hg; have hA := hA2; clear hA2))
  go_ret2
  exact ⟨_, _, _, rfl, hA⟩

set_option maxHeartbeats 800000 in
theorem val3 (B : Nat) (ao : Option Addr) (n cap : Nat) (zs : List Int) (k sp : Int) (t : ByteArray) (w : World) (hd : Dat 5 .u8 B w ao n cap zs) (hn : n ≤ 70000000000000) (ht : t.size ≤ 1048576) (hk0 : 0 ≤ k) (hk1 : k < 256) (h0 : (k % 6 == 0) = false) (h1 : (k % 6 == 1) = false) (h2 : (k % 6 == 2) = false) (h3 : (k % 6 == 3) = true) (hq : (k / 6 % 2 == 0) = true) :
    Calls Try.prog 29 #[.slice ao n cap, .int .u8 k, .string t, .int .u8 sp] w (ValEnd B w ao zs ([91] ++ spc sp ++ [93]) (0)) := by
  have hA := App.start hd
  clear hd
  go_enter Try.func29, Try.ntmps29
  go_wp2_with (first | (go_at_call 27; refine (sbSpace_any B _ _ _ _ sp _ hA.dat (by omega)).mono ?_; rintro e w3 ⟨a3, n3, c3, rfl, hB⟩; have hl := hA.le hB (spc_len sp); have hA2 := hA.join hB; clear hA hB; have hA := hA2; clear hA2) | (go_at_call 28; refine (sbString_any B _ _ _ _ t _ hA.dat (by omega) ht).mono ?_; rintro e w3 ⟨a3, n3, c3, rfl, hB⟩; have hl := hA.le hB (str_le t); have hA2 := hA.join hB; clear hA hB; have hA := hA2; clear hA2) | (at_builtin; refine wpList_app _ 22 5 .u8 1 Try.underlying22 infoB _ rfl _ _ rfl B _ _ 1 _ _ [_] rfl rfl rfl rfl hA.dat (by omega) (by omega) ?_; intro ao' n' cap' w' hd hg hn3 hn4; have hA2 := hA.step hd hg; clear hA hd hg; have hA := hA2; clear hA2))
  go_ret2
  exact ⟨_, _, _, rfl, hA⟩

set_option maxHeartbeats 800000 in
theorem val3b (B : Nat) (ao : Option Addr) (n cap : Nat) (zs : List Int) (k sp : Int) (t : ByteArray) (w : World) (hd : Dat 5 .u8 B w ao n cap zs) (hn : n ≤ 70000000000000) (ht : t.size ≤ 1048576) (hk0 : 0 ≤ k) (hk1 : k < 256) (h0 : (k % 6 == 0) = false) (h1 : (k % 6 == 1) = false) (h2 : (k % 6 == 2) = false) (h3 : (k % 6 == 3) = true) (hq : (k / 6 % 2 == 0) = false) :
    Calls Try.prog 29 #[.slice ao n cap, .int .u8 k, .string t, .int .u8 sp] w (ValEnd B w ao zs ([123] ++ spc sp ++ [125]) (0)) := by
  have hA := App.start hd
  clear hd
  go_enter Try.func29, Try.ntmps29
  go_wp2_with (first | (go_at_call 27; refine (sbSpace_any B _ _ _ _ sp _ hA.dat (by omega)).mono ?_; rintro e w3 ⟨a3, n3, c3, rfl, hB⟩; have hl := hA.le hB (spc_len sp); have hA2 := hA.join hB; clear hA hB; have hA := hA2; clear hA2) | (go_at_call 28; refine (sbString_any B _ _ _ _ t _ hA.dat (by omega) ht).mono ?_; rintro e w3 ⟨a3, n3, c3, rfl, hB⟩; have hl := hA.le hB (str_le t); have hA2 := hA.join hB; clear hA hB; have hA := hA2; clear hA2) | (at_builtin; refine wpList_app _ 22 5 .u8 1 Try.underlying22 infoB _ rfl _ _ rfl B _ _ 1 _ _ [_] rfl rfl rfl rfl hA.dat (by omega) (by omega) ?_; intro ao' n' cap' w' hd hg hn3 hn4; have hA2 := hA.step hd hg; clear hA hd hg; have hA := hA2; clear hA2))
  go_ret2
  exact ⟨_, _, _, rfl, hA⟩

set_option maxHeartbeats 800000 in
theorem val4 (B : Nat) (ao : Option Addr) (n cap : Nat) (zs : List Int) (k sp : Int) (t : ByteArray) (w : World) (hd : Dat 5 .u8 B w ao n cap zs) (hn : n ≤ 70000000000000) (ht : t.size ≤ 1048576) (hk0 : 0 ≤ k) (hk1 : k < 256) (h0 : (k % 6 == 0) = false) (h1 : (k % 6 == 1) = false) (h2 : (k % 6 == 2) = false) (h3 : (k % 6 == 3) = false) (h4 : (k % 6 == 4) = true) :
    Calls Try.prog 29 #[.slice ao n cap, .int .u8 k, .string t, .int .u8 sp] w (ValEnd B w ao zs (lit3) (-1)) := by
  have hA := App.start hd
  clear hd
  go_enter Try.func29, Try.ntmps29
  go_wp2_with (first | (go_at_call 27; refine (sbSpace_any B _ _ _ _ sp _ hA.dat (by omega)).mono ?_; rintro e w3 ⟨a3, n3, c3, rfl, hB⟩; have hl := hA.le hB (spc_len sp); have hA2 := hA.join hB; clear hA hB; have hA := hA2; clear hA2) | (go_at_call 28; refine (sbString_any B _ _ _ _ t _ hA.dat (by omega) ht).mono ?_; rintro e w3 ⟨a3, n3, c3, rfl, hB⟩; have hl := hA.le hB (str_le t); have hA2 := hA.join hB; clear hA hB; have hA := hA2; clear hA2) | (at_builtin; refine wpList_app _ 22 5 .u8 1 Try.underlying22 infoB _ rfl _ _ rfl B _ _ 1 _ _ [_] rfl rfl rfl rfl hA.dat (by omega) (by omega) ?_; intro ao' n' cap' w' hd hg hn3 hn4; have hA2 := hA.step hd hg; clear hA hd hg; have hA := hA2; clear hA2) | (at_builtin; refine wpList_app_str _ 22 9 5 1 Try.underlying22 Try.underlying9 infoB rfl _ _ rfl B _ _ _ _ _ rfl rfl hA.dat (by simp only [lz3]; omega) (by simp only [lz3]; omega) ?_; intro ao' n' cap' w' hd hg hn3 hn4; simp only [lz3] at hn3 hn4; have hA2 := hA.step hd hg; clear hA hd hg; have hA := hA2; clear hA2))
  go_ret2
  exact ⟨_, _, _, rfl, hA⟩

set_option maxHeartbeats 800000 in
theorem val5 (B : Nat) (ao : Option Addr) (n cap : Nat) (zs : List Int) (k sp : Int) (t : ByteArray) (w : World) (hd : Dat 5 .u8 B w ao n cap zs) (hn : n ≤ 70000000000000) (ht : t.size ≤ 1048576) (hk0 : 0 ≤ k) (hk1 : k < 256) (h0 : (k % 6 == 0) = false) (h1 : (k % 6 == 1) = false) (h2 : (k % 6 == 2) = false) (h3 : (k % 6 == 3) = false) (h4 : (k % 6 == 4) = false) :
    Calls Try.prog 29 #[.slice ao n cap, .int .u8 k, .string t, .int .u8 sp] w (ValEnd B w ao zs (lit4) (-1)) := by
  have hA := App.start hd
  clear hd
  go_enter Try.func29, Try.ntmps29
  go_wp2_with (first | (go_at_call 27; refine (sbSpace_any B _ _ _ _ sp _ hA.dat (by omega)).mono ?_; rintro e w3 ⟨a3, n3, c3, rfl, hB⟩; have hl := hA.le hB (spc_len sp); have hA2 := hA.join hB; clear hA hB; have hA := hA2; clear hA2) | (go_at_call 28; refine (sbString_any B _ _ _ _ t _ hA.dat (by omega) ht).mono ?_; rintro e w3 ⟨a3, n3, c3, rfl, hB⟩; have hl := hA.le hB (str_le t); have hA2 := hA.join hB; clear hA hB; have hA := hA2; clear hA2) | (at_builtin; refine wpList_app _ 22 5 .u8 1 Try.underlying22 infoB _ rfl _ _ rfl B _ _ 1 _ _ [_] rfl rfl rfl rfl hA.dat (by omega) (by omega) ?_; intro ao' n' cap' w' hd hg hn3 hn4; have hA2 := hA.step hd hg; clear hA hd hg; have hA := hA2; clear hA2) | (at_builtin; refine wpList_app_str _ 22 9 5 1 Try.underlying22 Try.underlying9 infoB rfl _ _ rfl B _ _ _ _ _ rfl rfl hA.dat (by simp only [lz4]; omega) (by simp only [lz4]; omega) ?_; intro ao' n' cap' w' hd hg hn3 hn4; simp only [lz4] at hn3 hn4; have hA2 := hA.step hd hg; clear hA hd hg; have hA := hA2; clear hA2))
  go_ret2
  exact ⟨_, _, _, rfl, hA⟩

theorem sbValue_any (B : Nat) (ao : Option Addr) (n cap : Nat) (zs : List Int) (k sp : Int) (t : ByteArray) (w : World) (hd : Dat 5 .u8 B w ao n cap zs) (hn : n ≤ 70000000000000) (ht : t.size ≤ 1048576) (hk0 : 0 ≤ k) (hk1 : k < 256) :
    Calls Try.prog 29 #[.slice ao n cap, .int .u8 k, .string t, .int .u8 sp] w (ValEnd B w ao zs (valB k (sb t) sp) (cntB k)) := by
  have b : ∀ j : Int, ¬ k % 6 = j → (k % 6 == j) = false := fun j h => by simpa using h
  by_cases c0 : k % 6 = 0
  · rw [show valB k (sb t) sp = strB (sb t) by simp [valB, c0], show cntB k = -1 by simp [cntB, c0]]
    exact val0 B ao n cap zs k sp t w hd hn ht hk0 hk1 (by simpa using c0)
  by_cases c1 : k % 6 = 1
  · rw [show valB k (sb t) sp = [91] ++ spc sp ++ strB (sb t) ++ spc sp ++ [44] ++ spc sp ++ strB (sb t) ++ spc sp ++ [93] by simp [valB, c1], show cntB k = 2 by simp [cntB, c1]]
    exact val1 B ao n cap zs k sp t w hd hn ht hk0 hk1 (b 0 c0) (by simpa using c1)
  by_cases c2 : k % 6 = 2
  · rw [show valB k (sb t) sp = [123] ++ spc sp ++ strB (sb t) ++ spc sp ++ [58] ++ spc sp ++ lit1 ++ spc sp ++ [44] ++ spc sp ++ lit2 ++ spc sp ++ strB (sb t) ++ spc sp ++ [125] by simp [valB, c2], show cntB k = 2 by simp [cntB, c2]]
    exact val2 B ao n cap zs k sp t w hd hn ht hk0 hk1 (b 0 c0) (b 1 c1) (by simpa using c2)
  by_cases c3 : k % 6 = 3
  · by_cases q : k / 6 % 2 = 0
    · rw [show valB k (sb t) sp = [91] ++ spc sp ++ [93] by simp [valB, c3, q], show cntB k = 0 by simp [cntB, c3]]
      exact val3 B ao n cap zs k sp t w hd hn ht hk0 hk1 (b 0 c0) (b 1 c1) (b 2 c2) (by simpa using c3) (by simpa using q)
    · rw [show valB k (sb t) sp = [123] ++ spc sp ++ [125] by simp [valB, c3, q], show cntB k = 0 by simp [cntB, c3]]
      exact val3b B ao n cap zs k sp t w hd hn ht hk0 hk1 (b 0 c0) (b 1 c1) (b 2 c2) (by simpa using c3) (by simpa using q)
  by_cases c4 : k % 6 = 4
  · rw [show valB k (sb t) sp = lit3 by simp [valB, c4], show cntB k = -1 by simp [cntB, c4]]
    exact val4 B ao n cap zs k sp t w hd hn ht hk0 hk1 (b 0 c0) (b 1 c1) (b 2 c2) (b 3 c3) (by simpa using c4)
  · rw [show valB k (sb t) sp = lit4 by simp [valB, c0, c1, c2, c3, c4], show cntB k = -1 by simp [cntB, c1, c2, c3]]
    exact val5 B ao n cap zs k sp t w hd hn ht hk0 hk1 (b 0 c0) (b 1 c1) (b 2 c2) (b 3 c3) (b 4 c4)
end Go.Proofs.Qxb6601094a

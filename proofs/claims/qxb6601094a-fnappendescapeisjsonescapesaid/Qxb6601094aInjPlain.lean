/-
  Plain: the escape tells two runes of the Basic Multilingual Plane apart.
-/
import Derived.Test.Qxb6601094aPlain
namespace Go.Proofs.Qxb6601094a

theorem hexd_inj {x y : Int} (hx : 0 ≤ x) (hx1 : x < 16) (hy : 0 ≤ y) (hy1 : y < 16) (h : hexd x = hexd y) : x = y := by
  unfold hexd at h
  split at h <;> split at h <;> omega

theorem esc_len (r : Int) : (esc r).length = 2 ∨ (esc r).length = 6 := by
  unfold esc
  repeat (first | (left; rfl) | (right; rfl) | split)

theorem esc_inj {a b : Int} (ha : 0 ≤ a) (ha1 : a ≤ 65535) (hb : 0 ≤ b) (hb1 : b ≤ 65535) (h : esc a = esc b) : a = b := by
  by_cases ca : a = 8 ∨ a = 12 ∨ a = 10 ∨ a = 13 ∨ a = 9
  · by_cases cb : b = 8 ∨ b = 12 ∨ b = 10 ∨ b = 13 ∨ b = 9
    · rcases ca with rfl | rfl | rfl | rfl | rfl <;> rcases cb with rfl | rfl | rfl | rfl | rfl <;> first | rfl | (exfalso; revert h; decide)
    · have e : esc b = [92, 117, hexd (b / 4096 % 16), hexd (b / 256 % 16), hexd (b / 16 % 16), hexd (b % 16)] := by
        simp only [not_or] at cb
        simp [esc, cb]
      rw [e] at h
      rcases ca with rfl | rfl | rfl | rfl | rfl <;> simp [esc] at h
  · have ea : esc a = [92, 117, hexd (a / 4096 % 16), hexd (a / 256 % 16), hexd (a / 16 % 16), hexd (a % 16)] := by
      simp only [not_or] at ca
      simp [esc, ca]
    by_cases cb : b = 8 ∨ b = 12 ∨ b = 10 ∨ b = 13 ∨ b = 9
    · rw [ea] at h
      rcases cb with rfl | rfl | rfl | rfl | rfl <;> simp [esc] at h
    · have eb : esc b = [92, 117, hexd (b / 4096 % 16), hexd (b / 256 % 16), hexd (b / 16 % 16), hexd (b % 16)] := by
        simp only [not_or] at cb
        simp [esc, cb]
      rw [ea, eb] at h
      simp only [List.cons.injEq, true_and, and_true] at h
      obtain ⟨h1, h2, h3, h4⟩ := h
      have g1 := hexd_inj (by omega) (by omega) (by omega) (by omega) h1
      have g2 := hexd_inj (by omega) (by omega) (by omega) (by omega) h2
      have g3 := hexd_inj (by omega) (by omega) (by omega) (by omega) h3
      have g4 := hexd_inj (by omega) (by omega) (by omega) (by omega) h4
      omega

/-- Every element is told by its place: two lists of one length that agree at each place are one. -/
theorem list_eq_of_getD {xs ys : List Int} (hl : xs.length = ys.length) (h : ∀ j, j < xs.length → xs.getD j 0 = ys.getD j 0) : xs = ys := by
  apply List.ext_getElem hl
  intro i h1 h2
  have := h i h1
  simpa [List.getD_eq_getElem?_getD, List.getElem?_eq_getElem h1, List.getElem?_eq_getElem h2] using this
end Go.Proofs.Qxb6601094a

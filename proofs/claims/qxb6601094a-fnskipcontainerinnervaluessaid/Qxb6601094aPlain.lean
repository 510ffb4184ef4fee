/-
  Plain facts on bits, hexadecimal digits and the escape of a rune. No program in sight.
-/
import Derived.WalkKit
import Derived.Laws.BitsLemmas
namespace Go.Proofs.Qxb6601094a
open Go.RowKit

theorem and15 (x : Int) : bits .and .i32 x 15 = x % 16 := by
  have h15 : (BitVec.ofInt 32 15).toNat = 2 ^ 4 - 1 := by decide
  show IntKind.i32.wrap (((BitVec.ofInt 32 x) &&& (BitVec.ofInt 32 15)).toNat : Int) = x % 16
  rw [BitVec.toNat_and, h15, Nat.and_two_pow_sub_one_eq_mod, BitVec.toNat_ofInt, IntKind.wrap_i32]
  omega

/-- The lower-case hexadecimal digit of n, n below 16. -/
def hexd (n : Int) : Int := if n < 10 then 48 + n else 87 + n

/-- The bytes that the escape of r is made of. -/
def esc (r : Int) : List Int :=
  if r = 8 then [92, 98] else if r = 12 then [92, 102] else if r = 10 then [92, 110] else if r = 13 then [92, 114] else if r = 9 then [92, 116] else
  [92, 117, hexd (r / 4096 % 16), hexd (r / 256 % 16), hexd (r / 16 % 16), hexd (r % 16)]

theorem digit_at (x : Int) (h0 : 0 ≤ x) (h1 : x < 16) (h : x.toNat < (ByteArray.mk #[48, 49, 50, 51, 52, 53, 54, 55, 56, 57, 97, 98, 99, 100, 101, 102]).size) :
    (((ByteArray.mk #[48, 49, 50, 51, 52, 53, 54, 55, 56, 57, 97, 98, 99, 100, 101, 102])[x.toNat]'h).toNat : Int) = hexd x := by
  obtain ⟨k, rfl⟩ := Int.eq_ofNat_of_zero_le h0
  have hk : k < 16 := by omega
  have : ∀ k : Fin 16, ((#[48, 49, 50, 51, 52, 53, 54, 55, 56, 57, 97, 98, 99, 100, 101, 102] : Array UInt8)[k.val]!.toNat : Int) = hexd k.val := by decide
  have t := this ⟨k, hk⟩
  rw [← t]
  simp only [Int.toNat_natCast]
  congr 1
  rw [getElem!_pos _ _ (by simpa using hk)]
  rfl
end Go.Proofs.Qxb6601094a

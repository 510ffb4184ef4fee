/-
  Plain facts for the JSON escape: its letter, its digits' value.
-/
import Derived.Test.Qxb6601094aInjPlain
namespace Go.Proofs.Qxb6601094a
open Go.RowKit

def shortOf (r : Int) : Int := if r = 8 then 98 else if r = 9 then 116 else if r = 10 then 110 else if r = 12 then 102 else if r = 13 then 114 else 0

theorem esc_short {r : Int} (h : shortOf r ≠ 0) : esc r = [92, shortOf r] := by
  by_cases c : r = 8 ∨ r = 9 ∨ r = 10 ∨ r = 12 ∨ r = 13
  · rcases c with rfl | rfl | rfl | rfl | rfl <;> rfl
  · simp only [not_or] at c
    simp [shortOf, c] at h

theorem esc_long {r : Int} (h : shortOf r = 0) : esc r = [92, 117, hexd (r / 4096 % 16), hexd (r / 256 % 16), hexd (r / 16 % 16), hexd (r % 16)] := by
  by_cases c : r = 8 ∨ r = 9 ∨ r = 10 ∨ r = 12 ∨ r = 13
  · exfalso
    rcases c with rfl | rfl | rfl | rfl | rfl <;> revert h <;> decide
  · simp only [not_or] at c
    simp [esc, c]

/-- What the digits before the k-th come to. -/
def val (r : Int) : Nat → Int
  | 0 => 0
  | 1 => r / 4096 % 16
  | 2 => r / 256 % 256
  | 3 => r / 16 % 4096
  | _ => r % 65536

/-- The k-th digit. -/
def dgt (r : Int) : Nat → Int
  | 0 => r / 4096 % 16
  | 1 => r / 256 % 16
  | 2 => r / 16 % 16
  | _ => r % 16

theorem dgt_bd (r : Int) (k : Nat) : 0 ≤ dgt r k ∧ dgt r k < 16 := by
  unfold dgt; split <;> omega

theorem val_bd (r : Int) (k : Nat) : 0 ≤ val r k ∧ val r k < 65536 := by
  unfold val; split <;> omega

theorem val_succ (r : Int) (k : Nat) (hk : k < 4) : val r (k + 1) = val r k * 16 + dgt r k := by
  match k, hk with
  | 0, _ => simp only [val, dgt]; omega
  | 1, _ => simp only [val, dgt]; omega
  | 2, _ => simp only [val, dgt]; omega
  | 3, _ => simp only [val, dgt]; omega

theorem esc_digit {r : Int} (h : shortOf r = 0) (k : Nat) (hk : k < 4) : (esc r).getD (2 + k) 0 = hexd (dgt r k) := by
  rw [esc_long h]
  match k, hk with
  | 0, _ => rfl
  | 1, _ => rfl
  | 2, _ => rfl
  | 3, _ => rfl

theorem and65535 (x : Int) : bits .and .u32 (x % 4294967296) 65535 = x % 65536 := by
  have h15 : (BitVec.ofInt 32 65535).toNat = 2 ^ 16 - 1 := by decide
  show IntKind.u32.wrap (((BitVec.ofInt 32 (x % 4294967296)) &&& (BitVec.ofInt 32 65535)).toNat : Int) = x % 65536
  rw [BitVec.toNat_and, h15, Nat.and_two_pow_sub_one_eq_mod, BitVec.toNat_ofInt, IntKind.wrap_u32]
  omega

theorem hexd_cases (x : Int) : (x < 10 ∧ hexd x = 48 + x) ∨ (10 ≤ x ∧ hexd x = 87 + x) := by
  unfold hexd
  split <;> omega
end Go.Proofs.Qxb6601094a

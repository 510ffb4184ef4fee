/-
  The proof of 'Rows.FnLookupIsFirstOfNameSaid'.
-/
import Derived.Test.Qxb6601094aLkWalk
import Derived.ProofKit
import Derived.OpenShut
import Derived.ShutString
import Derived.ChangeOld
import Derived.Below
import Derived.Deep.Matrix
namespace Go.Proofs.Qxb6601094a.fnLookupIsFirstOfName
open Go.ChangeShapes Go.WideShapes Go.ChangeAt Go.RowKit
open Go.ChangeMaps (open_string shut_string)
open Go.Deep
set_option linter.unusedVariables false

theorem own : ownKnob Try.prog.godebug = none := by kernel_rfl
theorem laidOut : laidOutB Try.prog = true := by kernel_rfl

/-- The bytes of a list of numbers. -/
def toBytes (zs : List Int) : List UInt8 := zs.map fun n => UInt8.ofNat n.toNat

theorem bc_toBytes (zs : List Int) (h : ∀ n ∈ zs, (Lit.int .u8 n).wf = true) : bc (toBytes zs) = zs.map (Value.int .u8) := by
  unfold bc toBytes
  rw [List.map_map]
  apply List.map_congr_left
  intro n hn
  have := bounds_u8 (h n hn)
  have e : ((UInt8.ofNat n.toNat).toNat : Int) = n := by
    rw [UInt8.toNat_ofNat']
    omega
  simp only [Function.comp]
  rw [e]

theorem names_of {W : World} {a : Addr} {len cap : Nat} {A : Nat → Option Addr} {L C : Nat → Nat} {Z : Nat → List Int} (hl : len ≤ cap)
    (h : ∀ r, r < cap → W.cell? (a.add r) = some (.slice (A r) (L r) (C r)) ∧ L r ≤ C r ∧ C r ≤ maxLen ∧ (Z r).length = C r ∧ (∀ n ∈ Z r, (Lit.int .u8 n).wf = true) ∧ (A r = none → C r = 0) ∧
        ∀ a', A r = some a' → 0 ≤ a'.block ∧ ∀ c, c < C r → W.cell? (a'.add c) = some (.int .u8 ((Z r).getD c 0))) :
    Names W (some a) len A L C (fun r => toBytes ((Z r).take (L r))) := by
  refine ⟨(fun h => by cases h), fun b hb r hr => ?_, fun r hr => ?_, fun r hr => ?_⟩
  · cases hb
    exact (h r (by omega)).1
  · obtain ⟨h1, h2, h3, h4, h5, h6, h7⟩ := h r (by omega)
    rw [bc_toBytes _ (fun n hn => h5 n (List.mem_of_mem_take hn))]
    refine ⟨by simp; omega, fun e => by have := h6 e; omega, fun b hb j u hu => ?_⟩
    simp only [List.getElem?_map, Option.map_eq_some_iff] at hu
    obtain ⟨y, hy, rfl⟩ := hu
    obtain ⟨g1, g2⟩ := List.getElem?_eq_some_iff.1 hy
    have hj : j < (Z r).length := by simp at g1; omega
    rw [(h7 b hb).2 j (by omega)]
    simp at g2
    simp [List.getD_eq_getElem?_getD, List.getElem?_eq_getElem hj, g2]
  · obtain ⟨h1, h2, h3, h4⟩ := h r (by omega)
    unfold maxLen at h3
    omega

set_option maxRecDepth 100000 in
theorem lifted (os : Os) (started : os.Started) (H : Type) (enc : TypeId × Value → H) :
    ReturnsInHanded {} Try.checked os 7 .any (Rows.fnLookupIsFirstOfNameSpec.pre6 enc Try.prog Try.f7 Rows.fnLookupIsFirstOfNameRow.domain false) (Rows.fnLookupIsFirstOfNameSpec.post enc Try.prog Try.f7 false true false false) := by
  refine returnsInHanded_of_change (C := Try.checked) own started (by kernel_rfl) Try.func7
    (ChangeSpec.witness6 (enc := enc) (C := Try.checked) false ⟨#[], #[.slice none 0 0, .string ByteArray.empty], []⟩ 8 (by kernel_rfl) (by kernel_rfl) (by kernel_rfl) (by kernel_rfl)) ?_
  intro W base args ds gs before hval0 hW hcnd _
  have hval : ∀ (j : Nat) t v, Try.f7.params[j]? = some t → args[j]? = some v → Value.okWide Try.prog W .any base t v := hval0
  have hW' := hW
  obtain ⟨p, q, hA0, hV, rfl, hfz, hnd⟩ := hW
  have hA : DataW.TrodAll enc Try.prog W 0 (fun _ => true) true Try.f7.params.toList args.toList ds p := hA0
  rw [Try.params7] at hA hval
  obtain ⟨v0, vs0, d0, ds0, p0, q0, hargs, rfl, rfl, h0, r0⟩ := trodAll_cons hA
  obtain ⟨v1, vs1, d1, ds1, p1, q1, rfl, rfl, rfl, h1, r1⟩ := trodAll_cons r0
  obtain ⟨rfl, rfl, rfl⟩ := trodAll_nil r1
  obtain rfl : args = #[v0, v1] := by cases args; simp_all
  obtain ⟨rfl, rfl⟩ := trodVars_none hV
  obtain ⟨a0, len0, cap0, rfl⟩ := okWide_slice Try.underlying40 (hval 0 40 v0 rfl rfl)
  have k0 := h0
  have lt0 : ∀ x ∈ p0, x.block < W.heap.size := by obtain ⟨m, hm⟩ := k0; exact DataW.trod_lt m _ _ _ hm
  obtain ⟨A, L, C, S, nm, hlen⟩ : ∃ A L C S, Names W a0 len0 A L C S ∧ len0 ≤ maxLen := by
    obtain ⟨fuel, hf⟩ := h0
    rcases open_int_rows Try.underlying40 Try.underlying22 Try.underlying5 (by kernel_rfl) (by kernel_rfl) hf with ⟨hcs, _⟩ | ⟨a, len, cap, A, L, C, Z, hcs, _, hl, hm, _, hx⟩
    · simp [Value.cells] at hcs
      obtain ⟨rfl, rfl, rfl⟩ := hcs
      exact ⟨fun _ => .none, fun _ => 0, fun _ => 0, fun _ => [], ⟨fun _ => rfl, (fun b h => by cases h), (fun r h => by omega), fun r h => by omega⟩, Nat.zero_le _⟩
    · simp [Value.cells] at hcs
      obtain ⟨rfl, rfl, rfl⟩ := hcs
      exact ⟨A, L, C, _, names_of hl hx, Nat.le_trans hl hm⟩
  obtain ⟨s, rfl, rfl, rfl, w1⟩ := open_string Try.underlying9 (hval 1 9 v1 rfl rfl) h1
  clear hA0 hval0
  refine (lk_walk a0 len0 cap0 A L C S s W nm hlen w1).mono fun e W' ⟨he, bel⟩ => ?_
  subst he
  exact ⟨_, rfl, _, _, _, [], _, [], hW', trodAll_mk1 (shut_bool Try.underlying4 _), (trodAll_cons_mk (Below.trod laidOut (by kernel_rfl) (of_decide_eq_true (by kernel_rfl)) k0 bel lt0) (trodAll_cons_mk (shut_string Try.underlying9 w1) trodAll_mk0)), rfl, bel.frame _, fun h => by cases h⟩

theorem over : Rows.fnLookupIsFirstOfNameRow.holds Try.pinned (OpenSpec.ofChange Rows.fnLookupIsFirstOfNameSpec) :=
  OpenClaim.holds_of_wide 7 Try.f7 rfl rfl rfl rfl rfl rfl rfl ⟨rfl, rfl, rfl, rfl, rfl⟩ rfl rfl rfl rfl rfl (by kernel_rfl) Try.func7 (by kernel_rfl)
    (of_decide_eq_true (by kernel_rfl)) (by unfold Func.isWrapper; first | (rw [if_pos (by decide +kernel)]; kernel_rfl) | (rw [if_neg (by decide +kernel)]; exact ⟨rfl, rfl⟩))
    (fun os started H enc _ => lifted os started H enc)

theorem proved : Rows.FnLookupIsFirstOfNameSaid := over
end Go.Proofs.Qxb6601094a.fnLookupIsFirstOfName

/-
  sbBuild (13): what it ends in.
-/
import Derived.Test.Qxb6601094aFour
namespace Go.Proofs.Qxb6601094a
open Go.RowKit
set_option linter.unusedVariables false

theorem Four.cast {B : Nat} {w0 w : World} {ad ax ae ac : Option Addr} {nd cd ns cs ne ce nc cc : Nat} {D S E C D' S' E' C' : List Int} (h : Four B w0 w ad ax ae ac nd cd ns cs ne ce nc cc D S E C) (hD : D' = D) (hS : S' = S) (hE : E' = E) (hC : C' = C) :
    Four B w0 w ad ax ae ac nd cd ns cs ne ce nc cc D' S' E' C' := by
  subst hD hS hE hC
  exact h

theorem val_le (k : Int) (t : ByteArray) (sp : Int) : (valB k (sb t) sp).length ≤ 12 * t.size + 104 := by
  have := valB_len k (sb t) sp
  rwa [sb_length] at this

/-- The i-th text, or the empty one. -/
def txt (tn : Nat) (X : Nat → ByteArray) (i : Nat) : ByteArray := if i < tn then X i else ⟨#[]⟩

def BuildEnd (pre : List Int) (K : Nat → Int) (T : Nat → List Int) (obj : Bool) (sp : Int) (post : List Int) (kn : Nat) (w : World) (e : Ending) (w' : World) : Prop :=
  ∃ (ad ax ae ac : Option Addr) (nd cd ns cs ne ce nc cc no ne' : Nat), e = .returned (.tuple #[.slice ad nd cd, .int .i64 no, .int .i64 ne', .slice ax ns cs, .slice ae ne ce, .slice ac nc cc]) ∧
    Four w.heap.size w w' ad ax ae ac nd cd ns cs ne ce nc cc (text pre K T obj sp kn ++ [closing obj] ++ post) (startsTo pre K T obj sp kn) (endsTo pre K T obj sp kn) (countsTo K kn) ∧ no = pre.length ∧ ne' = (text pre K T obj sp kn ++ [closing obj]).length ∧ nd ≤ 70000000000000 ∧ kn ≤ 1048576

end Go.Proofs.Qxb6601094a

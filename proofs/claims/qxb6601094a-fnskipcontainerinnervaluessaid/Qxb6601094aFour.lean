/-
  What sbBuild has built behind k rounds; its four slices side by side.
-/
import Derived.Test.Qxb6601094aVal
import Derived.Test.Qxb6601094aClone
namespace Go.Proofs.Qxb6601094a
open Go.RowKit
set_option linter.unusedVariables false

theorem infoI : (Try.prog.info? 3).map (fun i => (i.zero, i.size, i.bytes)) = some (some (.int .i64 0), 1, 8) := by kernel_rfl

section
variable (pre : List Int) (K : Nat → Int) (T : Nat → List Int) (obj : Bool) (sp : Int)

/-- What stands ahead of the i-th member's value. -/
def memPre (i : Nat) : List Int := (if 0 < i then [44] ++ spc sp else []) ++ (if obj then strB (T i) ++ spc sp ++ [58] ++ spc sp else [])

/-- The i-th member. -/
def mem (i : Nat) : List Int := memPre T obj sp i ++ valB (K i) (T i) sp ++ spc sp

def opening : Int := if obj then 123 else 91
def closing : Int := if obj then 125 else 93

/-- The text behind k members. -/
def text : Nat → List Int
  | 0 => pre ++ [opening obj] ++ spc sp
  | k + 1 => text k ++ mem K T obj sp k

def startsTo (k : Nat) : List Int := (List.range k).map fun i => ((text pre K T obj sp i ++ memPre T obj sp i).length : Int)
def endsTo (k : Nat) : List Int := (List.range k).map fun i => ((text pre K T obj sp i ++ memPre T obj sp i ++ valB (K i) (T i) sp).length : Int)
def countsTo (k : Nat) : List Int := (List.range k).map fun i => cntB (K i)

theorem startsTo_succ (k : Nat) : startsTo pre K T obj sp (k + 1) = startsTo pre K T obj sp k ++ [((text pre K T obj sp k ++ memPre T obj sp k).length : Int)] := by simp [startsTo, List.range_succ]
theorem endsTo_succ (k : Nat) : endsTo pre K T obj sp (k + 1) = endsTo pre K T obj sp k ++ [((text pre K T obj sp k ++ memPre T obj sp k ++ valB (K k) (T k) sp).length : Int)] := by simp [endsTo, List.range_succ]
theorem countsTo_succ (k : Nat) : countsTo K (k + 1) = countsTo K k ++ [cntB (K k)] := by simp [countsTo, List.range_succ]
end

theorem valB_len (k : Int) (t : List Int) (sp : Int) : (valB k t sp).length ≤ 12 * t.length + 104 := by
  have h1 := strB_len t
  have h2 := spc_len sp
  unfold valB
  split
  · omega
  split
  · simp only [List.length_append, List.length_cons, List.length_nil]; omega
  split
  · simp only [List.length_append, List.length_cons, List.length_nil, lit1, lit2]; omega
  split
  · split <;> (simp only [List.length_append, List.length_cons, List.length_nil]; omega)
  split
  · simp only [lit3, List.length_cons, List.length_nil]; omega
  · simp only [lit4, List.length_cons, List.length_nil]; omega

/-- Four slices side by side: one of bytes, three of ints. -/
structure Four (B : Nat) (w0 w : World) (ad ax ae ac : Option Addr) (nd cd ns cs ne ce nc cc : Nat) (D S E C : List Int) : Prop where
  d : Dat 5 .u8 B w ad nd cd D
  s : Dat 3 .i64 B w ax ns cs S
  e : Dat 3 .i64 B w ae ne ce E
  c : Dat 3 .i64 B w ac nc cc C
  ds : Apart ad ax
  de : Apart ad ae
  dc : Apart ad ac
  se : Apart ax ae
  sc : Apart ax ac
  ec : Apart ae ac
  bel : Below B w0 w

section
variable {B : Nat} {w0 w w' : World} {ad ax ae ac a' : Option Addr} {nd cd ns cs ne ce nc cc n' c' : Nat} {D S E C X : List Int}

theorem Four.data (h : Four B w0 w ad ax ae ac nd cd ns cs ne ce nc cc D S E C) (hd : Dat 5 .u8 B w' a' n' c' X) (hg : Grew w ad w' a') : Four B w0 w' a' ax ae ac n' c' ns cs ne ce nc cc X S E C := by
  obtain ⟨s1, s2⟩ := h.s.keep hg h.ds.symm
  obtain ⟨e1, e2⟩ := h.e.keep hg h.de.symm
  obtain ⟨c1, c2⟩ := h.c.keep hg h.dc.symm
  exact ⟨hd, s1, e1, c1, s2.symm, e2.symm, c2.symm, h.se, h.sc, h.ec, hg.below h.d h.bel⟩

theorem Four.starts (h : Four B w0 w ad ax ae ac nd cd ns cs ne ce nc cc D S E C) (hd : Dat 3 .i64 B w' a' n' c' X) (hg : Grew w ax w' a') : Four B w0 w' ad a' ae ac nd cd n' c' ne ce nc cc D X E C := by
  obtain ⟨s1, s2⟩ := h.d.keep hg h.ds
  obtain ⟨e1, e2⟩ := h.e.keep hg h.se.symm
  obtain ⟨c1, c2⟩ := h.c.keep hg h.sc.symm
  exact ⟨s1, hd, e1, c1, s2, h.de, h.dc, e2.symm, c2.symm, h.ec, hg.below h.s h.bel⟩

theorem Four.ends (h : Four B w0 w ad ax ae ac nd cd ns cs ne ce nc cc D S E C) (hd : Dat 3 .i64 B w' a' n' c' X) (hg : Grew w ae w' a') : Four B w0 w' ad ax a' ac nd cd ns cs n' c' nc cc D S X C := by
  obtain ⟨s1, s2⟩ := h.d.keep hg h.de
  obtain ⟨e1, e2⟩ := h.s.keep hg h.se
  obtain ⟨c1, c2⟩ := h.c.keep hg h.ec.symm
  exact ⟨s1, e1, hd, c1, h.ds, s2, h.dc, e2, h.sc, c2.symm, hg.below h.e h.bel⟩

theorem Four.counts (h : Four B w0 w ad ax ae ac nd cd ns cs ne ce nc cc D S E C) (hd : Dat 3 .i64 B w' a' n' c' X) (hg : Grew w ac w' a') : Four B w0 w' ad ax ae a' nd cd ns cs ne ce n' c' D S E X := by
  obtain ⟨s1, s2⟩ := h.d.keep hg h.dc
  obtain ⟨e1, e2⟩ := h.s.keep hg h.sc
  obtain ⟨c1, c2⟩ := h.e.keep hg h.ec
  exact ⟨s1, e1, c1, hd, h.ds, h.de, s2, h.se, e2, c2, hg.below h.c h.bel⟩

theorem Four.app (h : Four B w0 w ad ax ae ac nd cd ns cs ne ce nc cc D S E C) (hA : App B w ad D w' a' n' c' X) : Four B w0 w' a' ax ae ac n' c' ns cs ne ce nc cc (D ++ X) S E C := h.data hA.dat hA.grew

theorem Four.app_le (h : Four B w0 w ad ax ae ac nd cd ns cs ne ce nc cc D S E C) (hA : App B w ad D w' a' n' c' X) {c : Nat} (hc : X.length ≤ c) : n' ≤ nd + c := by
  have h1 := hA.len
  have h2 := h.d.2.1
  omega

theorem Four.dlen (h : Four B w0 w ad ax ae ac nd cd ns cs ne ce nc cc D S E C) : (nd : Int) = (D.length : Int) := by rw [h.d.2.1]
end

theorem Four.start (w : World) : Four w.heap.size w w .none .none .none .none 0 0 0 0 0 0 0 0 [] [] [] [] :=
  ⟨Dat.nil _ _ _ _ (Nat.le_refl _), Dat.nil _ _ _ _ (Nat.le_refl _), Dat.nil _ _ _ _ (Nat.le_refl _), Dat.nil _ _ _ _ (Nat.le_refl _), Apart.none_left _, Apart.none_left _, Apart.none_left _, Apart.none_left _, Apart.none_left _, Apart.none_left _, Below.refl _ _⟩

/-- What is read of a slice of strings. -/
structure Texts (w : World) (ao : Option Addr) (n : Nat) (X : Nat → ByteArray) : Prop where
  none : ao = none → n = 0
  cell : ∀ b, ao = some b → ∀ r, r < n → w.cell? (b.add r) = some (.string (X r))

theorem Texts.later {w wr : World} {ao : Option Addr} {n : Nat} {X : Nat → ByteArray} (h : Texts w ao n X) (hb : Below w.heap.size w wr) : Texts wr ao n X :=
  ⟨h.none, fun b e r hr => by
    have hc := h.cell b e r hr
    exact (hb.cell (World.block_lt_of_cell? w _ hc)).trans hc⟩
end Go.Proofs.Qxb6601094a

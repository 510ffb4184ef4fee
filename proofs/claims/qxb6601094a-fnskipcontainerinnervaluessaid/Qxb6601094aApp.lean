/-
  Slices that the call builds by append: a state, a frame, and the laws of append at that state.
-/
import Derived.Test.Qxb6601094aRows
import Derived.WalkKit
import Derived.WalkSpells
import Derived.WalkLawsBesides
import Derived.Maps.AppendAt
import Derived.Deep.AppendSrc
namespace Go.Proofs.Qxb6601094a
open Go.RowKit
set_option linter.unusedVariables false

theorem hideA {p : Prop} (h : p) : Hid p := h

/-- A slice of numbers that the call owns (its blocks: from B on): it reads zs. -/
def Dat (e : TypeId) (k : IntKind) (B : Nat) (w : World) (ao : Option Addr) (n cap : Nat) (zs : List Int) : Prop :=
  w.ownsRow B e 1 (.slice ao n cap) n (zs.map (.int k)) ∧ zs.length = n ∧ B ≤ w.heap.size

/-- What an append to the slice at ao has turned: its own row, new blocks; and where it lies now. -/
def Grew (w : World) (ao : Option Addr) (w' : World) (ao' : Option Addr) : Prop :=
  w.grownBy w' (ao.map (·.block)) ∧ (ao'.map (·.block) = ao.map (·.block) ∨ ∃ b, ao' = some b ∧ w.heap.size ≤ b.block)

theorem ownBlock_slice (ao : Option Addr) (n cap : Nat) : Value.ownBlock (.slice ao n cap) = ao.map (·.block) := by cases ao <;> rfl

theorem grownBy_trans {w w1 w2 : World} {r r1 : Option Nat} (h : w.grownBy w1 r) (h1 : w1.grownBy w2 r1) (hr : r1 = r ∨ ∃ g, r1 = some g ∧ w.heap.size ≤ g) : w.grownBy w2 r := by
  refine ⟨h1.os.trans h.os, h1.tape.trans h.tape, h1.output.trans h.output, Nat.le_trans h.size h1.size, fun k hk hne => ?_⟩
  refine (h1.block k (Nat.lt_of_lt_of_le hk h.size) ?_).trans (h.block k hk hne)
  rcases hr with rfl | ⟨g, rfl, hg⟩
  · exact hne
  · intro e; cases e; omega

theorem Grew.refl (w : World) (ao : Option Addr) : Grew w ao w ao := ⟨World.grownBy.refl w _, .inl rfl⟩

theorem Grew.trans {w w1 w2 : World} {a a1 a2 : Option Addr} (h : Grew w a w1 a1) (h1 : Grew w1 a1 w2 a2) : Grew w a w2 a2 := by
  obtain ⟨g, p⟩ := h
  obtain ⟨g1, p1⟩ := h1
  refine ⟨grownBy_trans g g1 ?_, ?_⟩
  · rcases p with p | ⟨b, rfl, hb⟩
    · exact .inl p
    · exact .inr ⟨b.block, rfl, hb⟩
  · rcases p1 with p1 | ⟨b, rfl, hb⟩
    · rcases p with p | ⟨b, rfl, hb⟩
      · exact .inl (p1.trans p)
      · cases a2 with
        | none => simp at p1
        | some c =>
          simp at p1
          exact .inr ⟨c, rfl, by omega⟩
    · exact .inr ⟨b, rfl, Nat.le_trans g.size hb⟩

/-- Nothing below B has turned. -/
theorem Grew.below {e : TypeId} {k : IntKind} {B n cap : Nat} {zs : List Int} {w0 w w' : World} {ao ao' : Option Addr} (h : Grew w ao w' ao') (hd : Dat e k B w ao n cap zs) (hb : Below B w0 w) : Below B w0 w' := by
  refine hb.grown h.1 hd.2.2 ?_
  intro g hg
  cases ao with
  | none => cases hg
  | some a =>
    have := (hd.1.lt a.block rfl).1
    cases hg
    exact this

/-- Two slices that share no row. -/
def Apart (a b : Option Addr) : Prop := ∀ x y, a = some x → b = some y → x.block ≠ y.block

theorem Apart.symm {a b : Option Addr} (h : Apart a b) : Apart b a := fun x y hx hy e => h y x hy hx e.symm
theorem Apart.none_left (b : Option Addr) : Apart .none b := fun x y hx => by cases hx
theorem Apart.none_right (b : Option Addr) : Apart b .none := fun x y _ hy => by cases hy

/-- A slice that lies apart from the one that was appended to stays as it was, and stays apart. -/
theorem Dat.keep {e : TypeId} {k : IntKind} {B n cap : Nat} {zs : List Int} {w w' : World} {ao ao' a2 : Option Addr} (hd : Dat e k B w a2 n cap zs) (h : Grew w ao w' ao') (hp : Apart a2 ao) : Dat e k B w' a2 n cap zs ∧ Apart a2 ao' := by
  refine ⟨⟨hd.1.kept h.1 ?_, hd.2.1, Nat.le_trans hd.2.2 h.1.size⟩, ?_⟩
  · rw [ownBlock_slice]
    cases a2 with
    | none => exact .inl rfl
    | some x =>
      right
      cases ao with
      | none => simp
      | some y => simpa using hp x y rfl rfl
  · intro x y hx hy
    subst hx hy
    rcases h.2 with p | ⟨b, hb, hlt⟩
    · cases ao with
      | none => simp at p
      | some z =>
        simp at p
        rw [p]
        exact hp x z rfl rfl
    · cases hb
      have := (hd.1.lt x.block rfl).2
      omega

theorem Dat.nil (e : TypeId) (k : IntKind) (w : World) (B : Nat) (hB : B ≤ w.heap.size) : Dat e k B w none 0 0 [] := ⟨World.ownsRow_nil _ _ _ _, rfl, hB⟩

/-- An element's cell. -/
theorem Dat.cell {e : TypeId} {k : IntKind} {B n cap : Nat} {zs : List Int} {w : World} {a : Addr} (hd : Dat e k B w (some a) n cap zs) : ∃ g, a = ⟨g, 0, none⟩ ∧ g < w.heap.size ∧ ∀ j, j < n → w.cell? ⟨g, j, none⟩ = some (.int k (zs.getD j 0)) := by
  obtain ⟨h, hl, _⟩ := hd
  rcases h.2 with ⟨h1, _⟩ | ⟨g', c', cur, h1, _⟩
  · simp at h1
  · simp only [Value.slice.injEq, Option.some.injEq] at h1
    obtain ⟨rfl, _, rfl⟩ := h1
    refine ⟨g', rfl, (h.lt g' rfl).2, fun j hj => ?_⟩
    rw [h.cellAt j (by omega)]
    have : j < zs.length := by omega
    simp [List.getD_eq_getElem?_getD, List.getElem?_eq_getElem this]

theorem Dat.some_of_pos {e : TypeId} {k : IntKind} {B n cap : Nat} {zs : List Int} {w : World} {ao : Option Addr} (hd : Dat e k B w ao n cap zs) (hn : 0 < n) : ∃ g, ao = some ⟨g, 0, none⟩ := by
  rcases hd.1.2 with ⟨h1, h2⟩ | ⟨g', c', cur, h1, _⟩
  · omega
  · simp only [Value.slice.injEq] at h1; exact ⟨g', h1.1⟩

theorem Dat.le_cap {e : TypeId} {k : IntKind} {B n cap : Nat} {zs : List Int} {w : World} {ao : Option Addr} (hd : Dat e k B w ao n cap zs) : n ≤ cap := by
  rcases hd.1.2 with ⟨h1, h2⟩ | ⟨g', c', cur, h1, _, _, h2, _⟩
  · simp at h1; omega
  · simp only [Value.slice.injEq] at h1; omega

theorem shape_of {w : World} {B : Nat} {e : TypeId} {size n : Nat} {v : Value} {xs : List Value} (h : w.ownsRow B e size v n xs) : ∃ ao cap, v = .slice ao n cap := by
  rcases h.2 with ⟨rfl, rfl⟩ | ⟨g, cap, cur, rfl, _⟩
  · exact ⟨.none, 0, rfl⟩
  · exact ⟨some ⟨g, 0, none⟩, cap, rfl⟩

theorem grew_of {w w' : World} {ao ao' : Option Addr} {n cap n' cap' : Nat} (h : w.grownBy w' (Value.ownBlock (.slice ao n cap))) (hat : Value.ownBlock (.slice ao' n' cap') = Value.ownBlock (.slice ao n cap) ∨ Value.ownBlock (.slice ao' n' cap') = some w.heap.size) : Grew w ao w' ao' := by
  rw [ownBlock_slice] at h
  rw [ownBlock_slice, ownBlock_slice] at hat
  refine ⟨h, ?_⟩
  rcases hat with hat | hat
  · exact .inl hat
  · cases ao' with
    | none => simp at hat
    | some b => simp at hat; exact .inr ⟨b, rfl, by omega⟩

theorem grew_alloc {w w' : World} {ao ao' : Option Addr} {o : Obj} (h : Grew (w.alloc o) ao w' ao') (hlt : ∀ b, ao = some b → b.block < w.heap.size) : Grew w ao w' ao' := by
  refine ⟨grownBy_trans (World.grownBy_alloc w o _) h.1 (.inl rfl), ?_⟩
  rcases h.2 with p | ⟨b, hb, hl⟩
  · exact .inl p
  · exact .inr ⟨b, hb, by simp at hl; omega⟩

theorem cells_of_block (w : World) (cs : Array Value) (e : TypeId) : ∀ j u, cs.toList[j]? = some u → (w.alloc (.cells cs e)).cell? ((⟨w.heap.size, 0, none⟩ : Addr).add j) = some u := by
  intro j u hu
  have hadd : (⟨w.heap.size, 0, none⟩ : Addr).add j = ⟨w.heap.size, j, none⟩ := by unfold Addr.add; split <;> simp_all
  rw [hadd, cell_of_row _ w.heap.size j cs e (0, 0) (heap_alloc_new w _)]
  simpa using hu

/-- append of elements that the statement itself lays ('append(xs, a, b)'). -/
theorem wpList_app {ops : Array Oper} {rest : List Oper} {o : Oper} {a : Act} {Q : Exit → Act → World → Prop} (w : World) (t e : TypeId) (k : IntKind) (bytes : Nat) (ht : Try.prog.underlying t = some (.slice e))
    (hinfo : (Try.prog.info? e).map (fun i => (i.zero, i.size, i.bytes)) = some (some (.int k 0), 1, bytes)) (cs : Array Value) (hgd : o.guard = none) (s x : Operand)
    (ho : o.op = .call { callee := .builtin .append, args := #[s, x], argTypes := #[t, t] }) (B n cap m : Nat) (ao : Option Addr) (zs news : List Int) (hs : a.eval s = .slice ao n cap) (hx : a.eval x = .slice (some ⟨w.heap.size, 0, none⟩) m m)
    (hcs : cs.toList = news.map (.int k)) (hm : news.length = m) (hd : Dat e k B w ao n cap zs) (hb : (n + m) * bytes ≤ 140737488355328) (hb' : n + m ≤ 140737488355328)
    (h : ∀ ao' n' cap' w', Dat e k B w' ao' n' cap' (zs ++ news) → Grew w ao w' ao' → n' ≤ n + m → n + m ≤ n' → wpList Try.prog ops Q rest (a.put o.dst (.slice ao' n' cap')) w') :
    wpList Try.prog ops Q (o :: rest) a (w.alloc (.cells cs e)) := by
  obtain ⟨i, hi, hz, hsize, hby⟩ := info_parts hinfo
  obtain ⟨h1, h2, h3⟩ := hd
  have hlt := h1.lt
  refine wpList_append_own_at (w.alloc (.cells cs e)) hgd s x t ho B e i (.int k 0) 1 bytes ht hi hz hsize hby rfl (by decide) _ n _ hs (h1.alloc _) ⟨w.heap.size, 0, none⟩ m m (news.map (.int k)) hx (by simp [hm]) ?_ (ints_oneCell k news) (by unfold maxLen; omega) hb (by simp; omega) ?_
  · rw [← hcs]; exact cells_of_block w cs e
  · intro v' w' hown hgrow _ hat
    obtain ⟨ao', cap', rfl⟩ := shape_of hown
    refine h ao' (n + m) cap' w' ⟨by rw [List.map_append]; exact hown, by simp [h2, hm], ?_⟩ ?_ (Nat.le_refl _) (Nat.le_refl _)
    · have := hgrow.size; simp at this; omega
    · refine grew_alloc (grew_of hgrow hat) ?_
      rintro b rfl
      exact (hlt b.block rfl).2

/-- The bytes of a string, as numbers. -/
def sb (s : ByteArray) : List Int := s.data.toList.map fun b => (b.toNat : Int)

theorem sb_length (s : ByteArray) : (sb s).length = s.size := by
  unfold sb
  rw [List.length_map]
  rfl

theorem sb_cells (s : ByteArray) : (sb s).map (Value.int .u8) = byteCells s := by
  simp [sb, byteCells]

section
variable {P : Program} (w : World)

theorem run_append_str_room (t tx ty e : TypeId) (i : TypeInfo) (ht : P.underlying t = some (.slice e)) (hk : P.underlying tx = some .string) (hi : P.info? e = some i) (hz1 : i.size = 1)
    (g n cap : Nat) (cur : Array Value) (hg : w.heap[g]? = some (.cells cur e (0, 0))) (s : ByteArray) (hroom : n + s.size ≤ cap) (hfit : n + s.size ≤ cur.size) :
    (Builtin.append_ #[t, tx] ty #[.slice (some ⟨g, 0, none⟩) n cap, .string s]).run P w =
      .ok (.slice (some ⟨g, 0, none⟩) (n + s.size) cap) (w.setRow g (cur.toList.take n ++ byteCells s ++ cur.toList.drop (n + s.size)).toArray) := by
  have hf := firstCells_string (P := P) s w
  have h1 : ∀ u ∈ byteCells s, u.oneCell' = true := by
    intro u hu
    obtain ⟨_, _, rfl⟩ := List.mem_map.1 hu
    rfl
  have hst := run_storeCells_at P g n e (byteCells s) 0 cur w hg (by rw [byteCells_length]; simpa using hfit) h1
  simp only [Nat.add_zero, byteCells_length] at hst
  simp [Builtin.append_, run_underlying ht, run_underlying hk, sizeOf, typeInfo, hi, hz1, Builtin.lenOf, hroom, hf, Addr.add_lit, hst]

theorem run_append_str (B : Nat) (t tx ty e : TypeId) (i : TypeInfo) (z : Value) (bytes : Nat) (ht : P.underlying t = some (.slice e)) (hk : P.underlying tx = some .string) (hi : P.info? e = some i) (hz : i.zero = some z) (hz1 : i.size = 1)
    (hby : i.bytes = bytes) (hzs : z.cells.size = 1) (v : Value) (n : Nat) (xs : List Value) (hown : w.ownsRow B e 1 v n xs) (s : ByteArray) (h63 : n + s.size ≤ maxLen) (hbytes : (n + s.size) * bytes ≤ 140737488355328) (hbase : B ≤ w.heap.size) :
    ∃ v' w', (Builtin.append_ #[t, tx] ty #[v, .string s]).run P w = .ok v' w' ∧ w'.ownsRow B e 1 v' (n + s.size) (xs ++ byteCells s) ∧ w.grownBy w' v.ownBlock ∧ (v'.ownBlock = v.ownBlock ∨ v'.ownBlock = some w.heap.size) := by
  have hsmall : n + s.size ≤ 9223372036854775807 := by simp only [maxLen] at h63; omega
  have hsrc : Go.Src P i.size tx (.string s) s.size (byteCells s) w := by rw [hz1]; exact Go.Src.ofString w hk s
  have hlen : (xs ++ byteCells s).length = n + s.size := by rw [List.length_append, byteCells_length]; have := hown.1; omega
  have grown : ∀ (old : Nat), old < n + s.size → ∀ (row : Option Nat),
      (w.drew.alloc (.cells ((xs ++ byteCells s).toArray ++ Builtin.zeroCells z.cells (grownCap w (n + s.size) old e - (n + s.size))) e)).ownsRow B e 1
        (.slice (some ⟨w.heap.size, 0, none⟩) (n + s.size) (grownCap w (n + s.size) old e)) (n + s.size) (xs ++ byteCells s) ∧
      w.grownBy (w.drew.alloc (.cells ((xs ++ byteCells s).toArray ++ Builtin.zeroCells z.cells (grownCap w (n + s.size) old e - (n + s.size))) e)) row := by
    intro old ho row
    have hge := grownCap_ge w (n + s.size) old e
    have hcm : grownCap w (n + s.size) old e ≤ maxLen := grownCap_le_maxLen w (n + s.size) old e h63
    refine ⟨⟨by omega, .inr ⟨w.heap.size, _, _, rfl, hbase, heap_alloc_new w.drew _, hge, hcm, ?_, ?_⟩⟩, ⟨rfl, rfl, rfl, by simp, fun k hk _ => Below.heap_alloc w.drew _ k hk⟩⟩
    · simp only [Array.size_append, List.size_toArray, size_zeroCells, hzs, hlen]
      omega
    · simp only [Array.toList_append, Nat.mul_one]
      rw [← hlen]
      exact List.take_left
  rcases hown.2 with ⟨rfl, rfl⟩ | ⟨g, cap, cur, rfl, hbg, hg, hnc, hcm, hcs, htake⟩
  · have hx : xs = [] := List.eq_nil_of_length_eq_zero (by simpa using hown.1)
    subst hx
    by_cases hm : s.size = 0
    · have hn : byteCells s = [] := List.eq_nil_of_length_eq_zero (by rw [byteCells_length]; exact hm)
      refine ⟨.slice none 0 0, w, ?_, by rw [hm, hn]; exact World.ownsRow_nil w B e 1, ⟨rfl, rfl, rfl, Nat.le_refl _, fun _ _ _ => rfl⟩, Or.inl rfl⟩
      simp [Builtin.append_, run_underlying ht, run_underlying hk, sizeOf, typeInfo, hi, Builtin.lenOf, hm, Builtin.firstCells]
    · have hr := run_append_grow_src (P := P) w t tx ty e i z ht hi hz none 0 0 [] (run_firstCells_none w.drew i.size 0 0 0) (.string s) s.size (byteCells s) hsrc (by omega) (by omega) (growslice_fits (by omega) (by rw [hby]; exact hbytes))
      have hgr := grown 0 (by omega) (Value.ownBlock (.slice none 0 0))
      exact ⟨_, _, hr, hgr.1, hgr.2, Or.inr rfl⟩
  · by_cases hroom : n + s.size ≤ cap
    · have hr := run_append_str_room (P := P) w t tx ty e i ht hk hi hz1 g n cap cur hg s hroom (by omega)
      refine ⟨_, _, hr, ⟨by omega, .inr ⟨g, cap, _, rfl, hbg, setRow_heap w g cur _ e _ hg, hroom, hcm, ?_, ?_⟩⟩, ⟨rfl, rfl, rfl, by simp, fun k _ hk => setRow_other w g k _ (fun e => hk (by simp [Value.ownBlock, e]))⟩, Or.inl rfl⟩
      · simp only [List.size_toArray, List.length_append, List.length_take, List.length_drop, Array.length_toList, byteCells_length]
        omega
      · rw [Nat.mul_one] at htake
        rw [htake, Nat.mul_one, ← hlen]
        exact List.take_left
    · have holds : ∀ j u, xs[j]? = some u → w.cell? ((⟨g, 0, none⟩ : Addr).add j) = some u := hown.cells (g := g) rfl
      have hold := run_firstCells_some (P := P) w.drew i.size n ⟨g, 0, none⟩ n cap xs (by rw [hz1]; exact hown.1) (by simpa using holds)
      have hr := run_append_grow_src (P := P) w t tx ty e i z ht hi hz (some ⟨g, 0, none⟩) n cap xs hold (.string s) s.size (byteCells s) hsrc (by omega) (by omega) (growslice_fits (by omega) (by rw [hby]; exact hbytes))
      have hgr := grown cap (by omega) (Value.ownBlock (.slice (some ⟨g, 0, none⟩) n cap))
      exact ⟨_, _, hr, hgr.1, hgr.2, Or.inr rfl⟩
end

/-- append of a string's bytes. -/
theorem wpList_app_str {ops : Array Oper} {rest : List Oper} {o : Oper} {a : Act} {Q : Exit → Act → World → Prop} (w : World) (t tx e : TypeId) (bytes : Nat) (ht : Try.prog.underlying t = some (.slice e)) (hk : Try.prog.underlying tx = some .string)
    (hinfo : (Try.prog.info? e).map (fun i => (i.zero, i.size, i.bytes)) = some (some (.int .u8 0), 1, bytes)) (hgd : o.guard = none) (s x : Operand)
    (ho : o.op = .call { callee := .builtin .append, args := #[s, x], argTypes := #[t, tx] }) (B n cap : Nat) (ao : Option Addr) (zs : List Int) (str : ByteArray) (hs : a.eval s = .slice ao n cap) (hx : a.eval x = .string str)
    (hd : Dat e .u8 B w ao n cap zs) (hb : (n + str.size) * bytes ≤ 140737488355328) (hb' : n + str.size ≤ 140737488355328)
    (h : ∀ ao' n' cap' w', Dat e .u8 B w' ao' n' cap' (zs ++ sb str) → Grew w ao w' ao' → n' ≤ n + str.size → n + str.size ≤ n' → wpList Try.prog ops Q rest (a.put o.dst (.slice ao' n' cap')) w') :
    wpList Try.prog ops Q (o :: rest) a w := by
  obtain ⟨i, hi, hz, hsize, hby⟩ := info_parts hinfo
  obtain ⟨h1, h2, h3⟩ := hd
  refine wpList_plain hgd fun K hK => ?_
  obtain ⟨v', w', hr, hown, hgrow, hat⟩ := run_append_str (P := Try.prog) w B t tx o.type e i (.int .u8 0) bytes ht hk hi hz hsize hby rfl _ n _ h1 str (by unfold maxLen; omega) hb h3
  unfold Oper.wp execOp
  simp only [ho, resolve, invoke, builtin, Sem.run_bind, Sem.run_pure, Result.andThen_ok, List.map_toArray, List.map_cons, List.map_nil, hs, hx, hr]
  obtain ⟨ao', cap', rfl⟩ := shape_of hown
  refine hK _ _ (h ao' (n + str.size) cap' w' ⟨by rw [List.map_append, sb_cells]; exact hown, by rw [List.length_append, sb_length, h2], ?_⟩ (grew_of hgrow hat) (Nat.le_refl _) (Nat.le_refl _))
  exact Nat.le_trans h3 hgrow.size
end Go.Proofs.Qxb6601094a

/-
  Plain: a map whose keys are all among another's is no larger.
-/
import Derived.Test.Qxb6602900aMatch
namespace Go.Proofs.Qxb6602900a
open Go.RowKit Go.Maps
set_option linter.unusedVariables false

theorem sub_length {α : Type} : ∀ (l m : List α), l.Pairwise (fun x y => x ≠ y) → (∀ x ∈ l, x ∈ m) → l.length ≤ m.length
  | [], m, _, _ => Nat.zero_le _
  | x :: l, m, hp, hs => by
    obtain ⟨h1, h2⟩ := List.pairwise_cons.1 hp
    obtain ⟨a, b, rfl⟩ := List.append_of_mem (hs x (by simp))
    have := sub_length l (a ++ b) h2 (fun y hy => by
      have h3 := hs y (by simp [hy])
      have h4 := h1 y hy
      simp only [List.mem_append, List.mem_cons] at h3 ⊢
      rcases h3 with h3 | h3 | h3
      · exact .inl h3
      · exact absurd h3.symm h4
      · exact .inr h3)
    simp only [List.length_append, List.length_cons] at this ⊢
    omega

/-- What every reading of a map is. -/
theorem MapIs.entries {w : World} {v : Value} {D : DataW Unit} (h : MapIs w v D) : ∃ es, D = .map es ∧ es.Pairwise (fun p q => p.1 ≠ q.1) ∧ ∀ p ∈ es, WideAt.IsKeyLit p.1 := by
  rcases h with ⟨_, rfl⟩ | ⟨b, _, n, _, h⟩
  · exact ⟨[], rfl, List.Pairwise.nil, by simp⟩
  · exact h.entries law

theorem has_mem {es : List (Lit × DataW Unit)} (hk : ∀ p ∈ es, WideAt.IsKeyLit p.1) {p : Lit × DataW Unit} (hp : p ∈ es) : Maps.has (.map es) p.1 = true := by
  rw [Maps.has_eq, List.any_eq_true]
  exact ⟨p, hp, WideAt.sameKey_self (hk p hp)⟩

theorem size_le_of_has {w w' : World} {v v' : Value} {I W : DataW Unit} (hi : MapIs w v I) (hw : MapIs w' v' W) (h : ∀ kl, Maps.has W kl = true → Maps.has I kl = true) : Maps.size W ≤ Maps.size I := by
  obtain ⟨es, rfl, p1, k1⟩ := hi.entries
  obtain ⟨fs, rfl, p2, k2⟩ := hw.entries
  rw [Maps.size_eq, Maps.size_eq]
  suffices hx : (fs.map Prod.fst).length ≤ (es.map Prod.fst).length by simpa using hx
  refine sub_length _ _ (List.pairwise_map.2 p2) ?_
  intro x hx
  obtain ⟨p, hp, rfl⟩ := List.mem_map.1 hx
  have h1 := h p.1 (has_mem k2 hp)
  rw [Maps.has_eq, List.any_eq_true] at h1
  obtain ⟨q, hq, hs⟩ := h1
  rw [← WideAt.sameKey_eq hs]
  exact List.mem_map.2 ⟨q, hq, rfl⟩

theorem size_zero_iff {w : World} {v : Value} {W : DataW Unit} (hw : MapIs w v W) : Maps.size W = 0 ↔ ∀ kl, Maps.has W kl = false := by
  obtain ⟨fs, rfl, p2, k2⟩ := hw.entries
  rw [Maps.size_eq]
  constructor
  · intro h kl
    rw [List.eq_nil_of_length_eq_zero h]
    rfl
  · intro h
    match fs, k2, h with
    | [], _, _ => rfl
    | p :: fs, k2, h =>
      have h1 := has_mem k2 (p := p) (by simp)
      rw [h p.1] at h1
      cases h1

/-- A nil id matches just the empty wants. -/
theorem answers_nil {w : World} {v : Value} {W : DataW Unit} (hw : MapIs w v W) {b : Bool} (h : Answers (.map []) W b) : b = (Maps.size W == 0) := by
  cases b
  · obtain ⟨kl, h1, _⟩ := h.2 rfl
    have : Maps.size W ≠ 0 := fun e => by
      rw [(size_zero_iff hw).1 e kl] at h1
      cases h1
    simp [this]
  · have : Maps.size W = 0 := (size_zero_iff hw).2 fun kl => by
      cases hh : Maps.has W kl
      · rfl
      · exact absurd (h.1 rfl kl hh) (by simp [Maps.has])
    simp [this]

theorem answers_self {I : DataW Unit} {b : Bool} (h : Answers I I b) : b = true := by
  cases b
  · obtain ⟨kl, h1, h2⟩ := h.2 rfl
    exact absurd ⟨h1, fun _ => rfl⟩ h2
  · rfl

theorem answers_none {I : DataW Unit} {b : Bool} (h : Answers I (.map []) b) : b = true := by
  cases b
  · obtain ⟨kl, h1, h2⟩ := h.2 rfl
    cases h1
  · rfl

theorem mapIs_nil (w : World) : MapIs w (.map none) (.map []) := .inl ⟨rfl, rfl⟩
theorem mapIs_made (w : World) : MapIs (w.alloc (.map #[] 0)) (.map (some w.heap.size)) (.map []) := .inr ⟨_, rfl, 0, by decide, World.ownsMap_made _ _ _ _⟩

theorem size_bound {w : World} {v : Value} {D : DataW Unit} (h : MapIs w v D) : Maps.size D ≤ 4096 := by
  rcases h with ⟨_, rfl⟩ | ⟨b, _, n, hn, h⟩
  · exact Nat.zero_le _
  · exact Nat.le_trans h.size_le hn

/-- 'len' of a map value. -/
theorem len_any {w : World} {v : Value} {D : DataW Unit} (h : MapIs w v D) (ty : TypeId) : (Builtin.len_ #[26] ty #[v]).run Try.prog w = .ok (.int .i64 (Maps.size D)) w := by
  rcases h with ⟨rfl, rfl⟩ | ⟨b, rfl, n, hn, h⟩
  · exact Maps.len_nil Try.underlying26 ty
  · exact h.len Try.underlying26 ty

/-- 'len' of a map value, for the walk; the operation may be guarded. -/
theorem wpList_len_map (w : World) {ops : Array Oper} {rest : List Oper} {o : Oper} {a : Act} {Q : Exit → Act → World → Prop} (m : Operand) (hop : o.op = Op.call { callee := Callee.builtin Builtin.len, args := #[m], argTypes := #[26] })
    (hwant : Region.wanted o (yielded ops a.tmps) = true) (u : Value) (D : DataW Unit) (hm : a.eval m = u) (h : MapIs w u D) (hK : wpList Try.prog ops Q rest (a.put o.dst (.int .i64 (Maps.size D))) w) : wpList Try.prog ops Q (o :: rest) a w := by
  refine wpList_step fun K hK' => ?_
  rw [if_pos hwant]
  unfold Oper.wp
  simp [execOp, hop, resolve, invoke, builtin, hm, len_any h o.type, Result.andThen]
  exact hK' _ _ hK
end Go.Proofs.Qxb6602900a

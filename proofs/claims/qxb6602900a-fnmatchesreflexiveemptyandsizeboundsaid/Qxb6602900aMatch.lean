/-
  matches (16), ZZmatches (11).
-/
import Derived.Test.Qxb6602900aMaps
namespace Go.Proofs.Qxb6602900a
open Go.RowKit Go.Maps
set_option linter.unusedVariables false

/-- What matches answers, of the two maps' readings. -/
def Answers (I W : DataW Unit) (b : Bool) : Prop :=
  (b = true → ∀ kl, Maps.has W kl = true → Maps.has I kl = true) ∧
  (b = false → ∃ kl, Maps.has W kl = true ∧ ¬ (Maps.has I kl = true ∧ ∀ z, I.atKey kl z = W.atKey kl z))

def Matched (I W : DataW Unit) (w : World) (e : Ending) (w' : World) : Prop := ∃ b, e = .returned (.bool b) ∧ Answers I W b ∧ Below w.heap.size w w'

/-- A look-up with 'ok', in a map that may be nil. -/
theorem look_any {w : World} {v : Value} {I : DataW Unit} (h : MapIs w v I) {s : ByteArray} (hs : s.size ≤ maxLen) :
    ∃ g : ByteArray, (Instr.lookup 26 v (.string s) true).run Try.prog w = .ok (.tuple #[.string g, .bool (Maps.has I (.string s.data.toList))]) w ∧ I.atKey (.string s.data.toList) (.lit (.string [])) = .lit (.string g.data.toList) := by
  rcases h with ⟨rfl, rfl⟩ | ⟨b, rfl, n, hn, h⟩
  · exact ⟨ByteArray.empty, Maps.look_nil true law Try.underlying26 (zeroS w) (keyS hs), rfl⟩
  · obtain ⟨v, ps, hrun, hv⟩ := h.look_ok law Try.underlying26 (zeroS w) (plainElem_string (H := Unit) Try.underlying9 (s := ByteArray.empty) (by decide)) (keyS hs)
    obtain ⟨g, rfl, hg, _⟩ := plainElem_string_inv Try.underlying9 hv
    exact ⟨g, hrun, congrArg Prod.fst hg⟩

/-- The range's step over a map of strings. -/
theorem wpList_next_ss (w : World) {ops : Array Oper} {rest : List Oper} {o : Oper} {a : Act} {Q : Exit → Act → World → Prop}
    (hg : o.guard = none) (it : Operand) (hop : o.op = Op.next it false) (b r n : Nat) (D : DataW Unit) (left : Lit → Bool) (cnt : Nat) (hit : a.eval it = .pointer (some ⟨r, 0, none⟩)) (h : w.ranges Try.prog 9 (plainElem Try.prog 9) b r n D left cnt)
    (hDone : cnt = 0 → (∀ kl, left kl = false) → wpList Try.prog ops Q rest (a.put o.dst (.tuple #[.bool false])) w)
    (hMore : ∀ (x c : ByteArray) (w' : World) (cnt' : Nat), x.size ≤ maxLen → left (.string x.data.toList) = true → (∀ zd, D.atKey (.string x.data.toList) zd = .lit (.string c.data.toList)) → w'.ranges Try.prog 9 (plainElem Try.prog 9) b r n D (fun z => left z && !z.sameKey (.string x.data.toList)) cnt' → cnt' < cnt →
      w.grownBy w' (some r) → w'.heap.size = w.heap.size → (Instr.entry (.pointer (some ⟨r, 0, none⟩))).run Try.prog w' = .ok (.tuple #[.string x, .string c]) w' → wpList Try.prog ops Q rest (a.put o.dst (.tuple #[.bool true, .string x, .string c])) w') :
    wpList Try.prog ops Q (o :: rest) a w :=
  wpList_next_ranges w hg it hop 9 law (plainElem Try.prog 9) Value.string Value.string (fun key kl hkey => by obtain ⟨x, rfl, _⟩ := WideMaps.string_of_keyOf Try.underlying9 hkey; exact ⟨x, rfl⟩) (fun v y hv => by obtain ⟨c, rfl, _⟩ := plainElem_string_inv Try.underlying9 hv; exact ⟨c, rfl⟩)
    b r n D left cnt hit h hDone (fun x c kl y w' cnt' hkey hlk hv hat hrg hlt hgr hsz hen => by
      obtain ⟨x', ex, rfl, hwx⟩ := WideMaps.string_of_keyOf Try.underlying9 hkey
      cases ex
      obtain ⟨c', ec, rfl, hwc⟩ := plainElem_string_inv Try.underlying9 hv
      cases ec
      exact hMore x c w' cnt' hwx hlk hat hrg hlt hgr hsz hen)

theorem answers_empty (I : DataW Unit) : Answers I (.map []) true := ⟨(fun _ kl h => by cases h), (fun h => by cases h)⟩

set_option maxHeartbeats 400000 in
theorem match_nil (v : Value) (I : DataW Unit) (w : World) :
    Calls Try.prog 16 #[v, .map none] w (Matched I (.map []) w) := by
  have hr := run_range_nilMap (P := Try.prog) w 26 9 9 Try.underlying26
  have hn := fun ty => run_next_nilMap (P := Try.prog) w ty 0 0 #[]
  go_enter Try.func16, Try.ntmps16
  go_wp2
  refine wp_loop_rounds 1 ?_
  rw [rounds_succ]
  go_wp2
  go_ret
  exact ⟨true, rfl, answers_empty I, (Below.refl _ _).alloc (Nat.le_refl _) _⟩

set_option maxHeartbeats 400000 in
theorem match_some (v : Value) (bw : Nat) (I W : DataW Unit) (w : World) (hi : MapIs w v I) (hw : Om w bw W) :
    Calls Try.prog 16 #[v, .map (some bw)] w (Matched I W w) := by
  obtain ⟨n, hn, hown⟩ := hw
  have HI := hide hi
  clear hi
  go_enter Try.func16, Try.ntmps16
  go_wp2_with (at_range; refine wpList_range_own _ rfl _ 26 rfl 9 9 law Try.underlying26 _ bw n W rfl hown ?_; intro w0 hrg0 hg0 hs0)
  go_frame
  have hb0 : Below w.heap.size w w0 := (Below.refl _ _).grown hg0 (Nat.le_refl _) (by simp)
  have hv0 : MapIs w0 v I := HI.out.later hb0
  have RG0 := hide hrg0
  have HV0 := hide hv0
  have HB : Hid (∀ v' : Value, MapIs w v' I → ∀ b, v' = .map (some b) → b < w.heap.size) := fun v' h b e => by
    rcases h with ⟨h, _⟩ | ⟨b', h, h'⟩
    · rw [h] at e; cases e
    · rw [h] at e; cases e; exact h'.lt
  clear hown hg0 hs0 hrg0 hv0
  go_loopw [12] (fun _ wr => ∃ (left : Lit → Bool) (cnt : Nat), Hid (wr.ranges Try.prog 9 (plainElem Try.prog 9) bw w.heap.size n W left cnt) ∧ Hid (MapIs wr v I) ∧ Below w.heap.size w wr ∧ Hid (∀ kl, Maps.has W kl = true → left kl = true ∨ Maps.has I kl = true)) (fun _ wr => wr.rangeLeft bw w.heap.size)
  case atStart => exact ⟨_, _, RG0, HV0, hb0, fun kl h => .inl h⟩
  case round =>
    obtain ⟨left, cnt, hrg, hv, hb, hl⟩ := hrel
    clear RG0 HV0 hb0
    go_wp2_with (at_next; refine wpList_next_ss _ rfl _ rfl bw w.heap.size n W left cnt rfl hrg.out ?_ ?_)
    · intro _ hl0
      go_wp2
      go_ret
      refine ⟨true, rfl, ⟨fun _ kl h => ?_, (fun h => by cases h)⟩, hb⟩
      rcases hl.out kl h with h1 | h1
      · rw [hl0 kl] at h1; cases h1
      · exact h1
    · intro x c w1 cnt1 hx hlx hat hrg1 hlt hg1 hs1 hen
      have hb1 : Below w.heap.size w w1 := hb.grown hg1 hb.size (fun j hj => by cases hj; exact Nat.le_refl _)
      have hv1 : MapIs w1 v I := HI.out.later hb1
      obtain ⟨g, hrun, hgat⟩ := look_any hv1 hx
      have hW : Maps.has W (.string x.data.toList) = true := Maps.has_true_of_atKey hat
      have HRG := hide hrg1
      have HV1 := hide hv1
      have HAT := hide hat
      have HGAT := hide hgat
      have HW := hide hW
      have HCNT : Hid (w1.rangeLeft bw w.heap.size < wr.rangeLeft bw w.heap.size) := by rw [hrg1.left_eq, hrg.out.left_eq]; exact hlt
      clear hrg1 hv1 hat hgat hW hlt hg1 hs1 hlx hv
      cases hh : Maps.has I (.string x.data.toList)
      · rw [hh] at hrun
        have HH := hide hh
        clear hh
        go_wp2
        go_ret
        exact ⟨false, rfl, ⟨(fun h => by cases h), fun _ => ⟨_, HW.out, fun h => by rw [HH.out] at h; exact absurd h.1 (by decide)⟩⟩, hb1⟩
      · rw [hh] at hrun
        have HH := hide hh
        clear hh
        cases hgc : (g.toList == c.toList)
        · go_wp2
          go_ret
          refine ⟨false, rfl, ⟨(fun h => by cases h), fun _ => ⟨_, HW.out, fun h => ?_⟩⟩, hb1⟩
          have e := h.2 (.lit (.string []))
          rw [HGAT.out, HAT.out] at e
          simp only [DataW.lit.injEq, Lit.string.injEq] at e
          rw [ByteArray.toList_eq, ByteArray.toList_eq, e] at hgc
          simp at hgc
        · go_wp2
          go_roundw
          case rel =>
            refine ⟨_, _, HRG, HV1, hb1, fun kl h => ?_⟩
            rcases hl.out kl h with h1 | h1
            · by_cases hs : kl.sameKey (.string x.data.toList) = true
              · right
                rw [WideAt.sameKey_eq hs]
                exact HH.out
              · left
                simp [h1, hs]
            · exact .inr h1
          case measure => exact HCNT.out

theorem match_any (v u : Value) (I W : DataW Unit) (w : World) (hi : MapIs w v I) (hw : MapIs w u W) :
    Calls Try.prog 16 #[v, u] w (Matched I W w) := by
  rcases hw with ⟨rfl, rfl⟩ | ⟨b, rfl, h⟩
  · exact match_nil v I w
  · exact match_some v b I W w hi h

theorem ZZmatch_any (v u : Value) (I W : DataW Unit) (w : World) (hi : MapIs w v I) (hw : MapIs w u W) :
    Calls Try.prog 11 #[v, u] w (Matched I W w) := by
  have H := hide (match_any v u I W w hi hw)
  clear hi hw
  go_enter Try.func11, Try.ntmps11
  go_wp2_with fail
  refine H.out.mono ?_
  rintro e w1 ⟨b, rfl, ha, hb⟩
  have HA := hide ha
  clear ha H
  go_wp2
  go_ret
  exact ⟨b, rfl, HA.out, hb⟩
end Go.Proofs.Qxb6602900a

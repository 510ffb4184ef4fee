/-
  appendEscape (function 31) and ZZappendEscape (18): their contracts.
-/
import Derived.Test.Qxb6601094aRows
import Derived.Test.Qxb6601094aPlain
import Derived.WalkSpells
import Derived.WalkLawsBesides
import Derived.Deep.RegionLawGrows
namespace Go.Proofs.Qxb6601094a
open Go.RowKit

theorem info5 : (Try.prog.info? 5).map (fun i => (i.zero, i.size, i.bytes)) = some (some (.int .u8 0), 1, 1) := by kernel_rfl

theorem owns_mono {w : World} {b b' : Nat} {e : TypeId} {size : Nat} {v : Value} {n : Nat} {xs : List Value} (h : w.ownsRow b e size v n xs) (hb : b' ≤ b) : w.ownsRow b' e size v n xs := by
  obtain ⟨hl, h | ⟨g, cap, cur, e1, e2, e3⟩⟩ := h
  · exact ⟨hl, .inl h⟩
  · exact ⟨hl, .inr ⟨g, cap, cur, e1, by omega, e3⟩⟩

/-- What is known of the slice that comes in: nil, or a row that is full. -/
def Full (w : World) (ao : Option Addr) (n : Nat) (zs : List Int) : Prop :=
  (ao = none → n = 0 ∧ n = 0) ∧ zs.length = n ∧ ∀ b, ao = some b → b.block < w.heap.size ∧ ∀ j, j < n → w.cell? (b.add j) = some (.int .u8 (zs.getD j 0))

theorem Full.olds {w : World} {ao : Option Addr} {n : Nat} {zs : List Int} (h : Full w ao n zs) (o : Obj) :
    ∀ b, ao = some b → ∀ j u, (zs.map (Value.int .u8))[j]? = some u → (w.alloc o).cell? (b.add j) = some u := by
  intro b hb j u hu
  obtain ⟨h1, h2, h3⟩ := h
  obtain ⟨h4, h5⟩ := h3 b hb
  simp only [List.getElem?_map, Option.map_eq_some_iff] at hu
  obtain ⟨x, hx, rfl⟩ := hu
  have hj : j < n := by
    rw [← h2]; exact (List.getElem?_eq_some_iff.1 hx).1
  have := h5 j hj
  rw [List.getD_eq_getElem?_getD, hx] at this
  exact (World.cell?_of_block (Below.heap_alloc w o _ (by rw [show (b.add j).block = b.block by unfold Addr.add; split <;> rfl]; exact h4))).trans this

theorem Full.drew {w : World} {ao : Option Addr} {n : Nat} {zs : List Int} (h : Full w ao n zs) : Full w.drew ao n zs := h

theorem two_new (w : World) (x y : Value) (t : TypeId) : ∀ j u, [x, y][j]? = some u → (w.alloc (.cells #[x, y] t)).cell? ((⟨w.heap.size, 0, none⟩ : Addr).add j) = some u := by
  intro j u hj
  match j, hj with
  | 0, hj => simp at hj; subst hj; simp [Addr.add]
  | 1, hj => simp at hj; subst hj; simp [Addr.add]

theorem hide {p : Prop} (h : p) : Hid p := h

set_option maxHeartbeats 400000 in
theorem esc_two (ao : Option Addr) (n : Nat) (zs : List Int) (r c : Int) (w : World) (hf : Full w ao n zs) (hn : n ≤ 1048576)
    (hr : (r = 8 ∧ c = 98) ∨ (r = 12 ∧ c = 102) ∨ (r = 10 ∧ c = 110) ∨ (r = 13 ∧ c = 114) ∨ (r = 9 ∧ c = 116)) :
    Calls Try.prog 31 #[.slice ao n n, .int .i32 r] w fun e w' => ∃ v', e = .returned v' ∧ w'.ownsRow (w.heap.size + 1) 5 1 v' (n + 2) (zs.map (.int .u8) ++ [.int .u8 92, .int .u8 c]) ∧ (w.alloc (.cells #[.int .u8 92, .int .u8 c] 5)).grownBy w' none := by
  obtain ⟨i0, hi, hz0, hz1, hz2⟩ := info_parts info5
  have hnone := hf.1
  have hlo : (zs.map (Value.int .u8)).length = n * 1 := by simp [hf.2.1]
  have HO := hide (hf.olds (.cells #[.int .u8 92, .int .u8 c] 5))
  clear hf
  rcases hr with ⟨rfl, rfl⟩ | ⟨rfl, rfl⟩ | ⟨rfl, rfl⟩ | ⟨rfl, rfl⟩ | ⟨rfl, rfl⟩
  all_goals
    go_enter Try.func31, Try.ntmps31
    go_wp2_with (at_builtin; refine wpList_append_grows _ rfl _ _ 22 rfl 5 i0 (.int .u8 0) 1 1 Try.underlying22 hi hz0 hz1 hz2 rfl (by decide) ao n n (zs.map (Value.int .u8)) rfl hnone hlo HO.out ⟨w.heap.size, 0, none⟩ 2 2 [.int .u8 92, .int .u8 _] rfl rfl (two_new w _ _ _) (by simp [Value.oneCell']) (by omega) (by unfold maxLen; omega) (by omega) ?_)
    intro v' w' hown hgrow
    go_wp2
    go_ret
    exact ⟨_, rfl, hown, hgrow⟩

theorem six_new (w : World) (x y a b c d : Value) (t : TypeId) : ∀ j u, [x, y, a, b, c, d][j]? = some u → (w.alloc (.cells #[x, y, a, b, c, d] t)).cell? ((⟨w.heap.size, 0, none⟩ : Addr).add j) = some u := by
  intro j u hj
  match j, hj with
  | 0, hj | 1, hj | 2, hj | 3, hj | 4, hj | 5, hj => simp at hj; subst hj; simp [Addr.add]

set_option maxHeartbeats 400000 in
theorem esc_six (ao : Option Addr) (n : Nat) (zs : List Int) (r : Int) (w : World) (hf : Full w ao n zs) (hn : n ≤ 1048576)
    (h1 : (r == 8) = false) (h2 : (r == 12) = false) (h3 : (r == 10) = false) (h4 : (r == 13) = false) (h5 : (r == 9) = false) :
    Calls Try.prog 31 #[.slice ao n n, .int .i32 r] w fun e w' => ∃ v', e = .returned v' ∧ w'.ownsRow (w.heap.size + 1) 5 1 v' (n + 6) (zs.map (.int .u8) ++ [92, 117, hexd (r / 4096 % 16), hexd (r / 256 % 16), hexd (r / 16 % 16), hexd (r % 16)].map (.int .u8)) ∧ Below w.heap.size w w' := by
  obtain ⟨i0, hi, hz0, hz1, hz2⟩ := info_parts info5
  have hnone := hf.1
  have hlo : (zs.map (Value.int .u8)).length = n * 1 := by simp [hf.2.1]
  have HO := hide (fun o => (hf.drew).olds o)
  clear hf
  have a1 := and15 (r / 4096)
  have a2 := and15 (r / 256)
  have a3 := and15 (r / 16)
  have a4 := and15 r
  have b1 : 0 ≤ r / 4096 % 16 := by omega
  have b2 : 0 ≤ r / 256 % 16 := by omega
  have b3 : 0 ≤ r / 16 % 16 := by omega
  have b4 : 0 ≤ r % 16 := by omega
  have c1 : r / 4096 % 16 < 16 := by omega
  have c2 : r / 256 % 16 < 16 := by omega
  have c3 : r / 16 % 16 < 16 := by omega
  have c4 : r % 16 < 16 := by omega
  have d1 := digit_at _ b1 c1 
  have d2 := digit_at _ b2 c2
  have d3 := digit_at _ b3 c3
  have d4 := digit_at _ b4 c4
  go_enter Try.func31, Try.ntmps31
  go_wp2
  refine wp_region_any (by kernel_rfl) ?_
  change wpAny _ _ _ _ _ _ _ (World.drew _)
  refine wpAny_take (i := 0) (v := ?_) rfl (by kernel_rfl) (by kernel_rfl) (by kernel_rfl) (fun _ _ _ h => h) (Or.inl ⟨by rfl, ?_⟩) ?_
  rotate_left
  · intro w; go_simp; try with_reducible rfl
  refine wpAny_take (i := 1) (v := ?_) rfl (by kernel_rfl) (by kernel_rfl) (by kernel_rfl) (fun _ _ _ h => h) (Or.inl ⟨by rfl, ?_⟩) ?_
  rotate_left
  · intro w; go_simp; try with_reducible rfl
  refine wpAny_take (i := 2) (v := ?_) rfl (by kernel_rfl) (by kernel_rfl) (by kernel_rfl) (fun _ _ _ h => h) (Or.inl ⟨by rfl, ?_⟩) ?_
  rotate_left
  · intro w; go_simp; try with_reducible rfl
  refine wpAny_take (i := 3) (v := ?_) rfl (by kernel_rfl) (by kernel_rfl) (by kernel_rfl) (fun _ _ _ h => h) (Or.inl ⟨by rfl, ?_⟩) ?_
  rotate_left
  · intro w; go_simp; try with_reducible rfl
  refine wpAny_take (i := 4) (v := ?_) rfl (by kernel_rfl) (by kernel_rfl) (by kernel_rfl) (fun _ _ _ h => h) (Or.inl ⟨by rfl, ?_⟩) ?_
  rotate_left
  · intro w; go_simp; try with_reducible rfl
  refine wpAny_take (i := 5) (v := ?_) rfl (by kernel_rfl) (by kernel_rfl) (by kernel_rfl) (fun _ _ _ h => h) (Or.inl ⟨by rfl, ?_⟩) ?_
  rotate_left
  · intro w; go_simp; try with_reducible rfl
  refine wpAny_take (i := 6) (v := ?_) rfl (by kernel_rfl) (by kernel_rfl) (by kernel_rfl) (fun _ _ _ h => h) (Or.inl ⟨by rfl, ?_⟩) ?_
  rotate_left
  · intro w; go_simp; try with_reducible rfl
  refine wpAny_take (i := 7) (v := ?_) rfl (by kernel_rfl) (by kernel_rfl) (by kernel_rfl) (fun _ _ _ h => h) (Or.inl ⟨by rfl, ?_⟩) ?_
  rotate_left
  · intro w; go_simp; try with_reducible rfl
  refine wpAny_take (i := 8) (v := ?_) rfl (by kernel_rfl) (by kernel_rfl) (by kernel_rfl) (fun _ _ _ h => h) (Or.inl ⟨by rfl, ?_⟩) ?_
  rotate_left
  · intro w; go_simp; try with_reducible rfl
  refine wpAny_take (i := 9) (v := ?_) rfl (by kernel_rfl) (by kernel_rfl) (by kernel_rfl) (fun _ _ _ h => h) (Or.inl ⟨by rfl, ?_⟩) ?_
  rotate_left
  · intro w; go_simp; try with_reducible rfl
  refine wpAny_take (i := 10) (v := ?_) rfl (by kernel_rfl) (by kernel_rfl) (by kernel_rfl) (fun _ _ _ h => h) (Or.inl ⟨by rfl, ?_⟩) ?_
  rotate_left
  · intro w; go_simp; try with_reducible rfl
  refine wpAny_take (i := 11) (v := ?_) rfl (by kernel_rfl) (by kernel_rfl) (by kernel_rfl) (fun _ _ _ h => h) (Or.inl ⟨by rfl, ?_⟩) ?_
  rotate_left
  · intro w; go_simp; try with_reducible rfl
  refine wpAny_take (i := 12) (v := ?_) rfl (by kernel_rfl) (by kernel_rfl) (by kernel_rfl) (fun _ _ _ h => h) (Or.inl ⟨by rfl, ?_⟩) ?_
  rotate_left
  · intro w; go_simp; try with_reducible rfl
  refine wpAny_take (i := 13) (v := ?_) rfl (by kernel_rfl) (by kernel_rfl) (by kernel_rfl) (fun _ _ _ h => h) (Or.inl ⟨by rfl, ?_⟩) ?_
  rotate_left
  · intro w; go_simp; try with_reducible rfl
  refine wpAny_take (i := 14) (v := ?_) rfl (by kernel_rfl) (by kernel_rfl) (by kernel_rfl) (fun _ _ _ h => h) (Or.inl ⟨by rfl, ?_⟩) ?_
  rotate_left
  · intro w; go_simp; try with_reducible rfl
  refine wpAny_take (i := 15) (v := ?_) rfl (by kernel_rfl) (by kernel_rfl) (by kernel_rfl) (fun _ _ _ h => h) (Or.inl ⟨by rfl, ?_⟩) ?_
  rotate_left
  · intro w; go_simp; try with_reducible rfl
  refine wpAny_ready (rs := [16]) (by kernel_rfl) (by simp) ?_
  refine AllReady.cons (o := { dst := some 47, op := Op.buildSlice 22 6 #[(0, Operand.const (Value.int IntKind.u8 92)), (1, Operand.const (Value.int IntKind.u8 117)), (2, Operand.tmp 35), (3, Operand.tmp 39), (4, Operand.tmp 43), (5, Operand.tmp 46)], type := 22, pos := _, after := #[{ on := 4, ground := Ground.data }, { on := 8, ground := Ground.data }, { on := 12, ground := Ground.data }, { on := 15, ground := Ground.data }], guard := none }) rfl (fun K hK => ?_) AllReady.nil
  go_simp
  refine hK _ _ ?_
  clear hK K
  refine wpAny_ready (rs := [17]) (by kernel_rfl) (by simp) ?_
  refine AllReady.cons (o := { dst := some 48, op := Op.call { callee := Callee.builtin Builtin.append, args := #[Operand.tmp 31, Operand.tmp 47], argTypes := #[22, 22] }, type := 22, pos := _, after := #[{ on := 0, ground := Ground.data }, { on := 16, ground := Ground.data }], guard := none }) rfl (fun K hK => ?_) AllReady.nil
  refine step_append_grows rfl (.tmp 31) (.tmp 47) 22 rfl 5 i0 (.int .u8 0) 1 1 Try.underlying22 hi hz0 hz1 hz2 rfl (by decide) ao n n (zs.map (Value.int .u8)) (by simp [Act.eval]) hnone hlo (HO.out _) ⟨w.heap.size, 0, none⟩ 6 6 _ (by simp [Act.eval]) rfl (six_new w.drew _ _ _ _ _ _ _) (by simp [Value.oneCell']) (by omega) (by unfold maxLen; omega) (by omega) ?_
  intro v' w' hown hgrow
  refine hK _ _ ?_
  clear hK K
  refine wpAny_take (i := 18) (v := ?_) rfl (by kernel_rfl) (by kernel_rfl) (by kernel_rfl) (fun _ _ _ h => h) (Or.inl ⟨by rfl, ?_⟩) ?_
  rotate_left
  · intro w; go_simp; try with_reducible rfl
  refine wpAny_done (by kernel_rfl) ?_ _
  go_wp2
  go_ret
  refine ⟨v', rfl, owns_mono hown (by simp), (((Below.refl _ w).drew).alloc (Nat.le_refl _) _).grown hgrow (by simp) (by simp)⟩

/-- appendEscape onto a slice that is nil or full: a new row: what was there, then the escape. -/
theorem appendEscape_any (ao : Option Addr) (n : Nat) (zs : List Int) (r : Int) (w : World) (hf : Full w ao n zs) (hn : n ≤ 1048576) :
    Calls Try.prog 31 #[.slice ao n n, .int .i32 r] w fun e w' => ∃ v', e = .returned v' ∧ w'.ownsRow w.heap.size 5 1 v' (n + (esc r).length) ((zs ++ esc r).map (.int .u8)) ∧ Below w.heap.size w w' := by
  by_cases hr : r = 8 ∨ r = 12 ∨ r = 10 ∨ r = 13 ∨ r = 9
  · have two : ∀ c : Int, esc r = [92, c] → ((r = 8 ∧ c = 98) ∨ (r = 12 ∧ c = 102) ∨ (r = 10 ∧ c = 110) ∨ (r = 13 ∧ c = 114) ∨ (r = 9 ∧ c = 116)) →
        Calls Try.prog 31 #[.slice ao n n, .int .i32 r] w fun e w' => ∃ v', e = .returned v' ∧ w'.ownsRow w.heap.size 5 1 v' (n + (esc r).length) ((zs ++ esc r).map (.int .u8)) ∧ Below w.heap.size w w' := by
      intro c he hc
      refine (esc_two ao n zs r c w hf hn hc).mono ?_
      rintro e w' ⟨v', rfl, h1, h2⟩
      refine ⟨v', rfl, ?_, ((Below.refl _ w).alloc (Nat.le_refl _) _).grown h2 (by simp) (by simp)⟩
      rw [he]
      simpa using owns_mono h1 (Nat.le_succ _)
    rcases hr with rfl | rfl | rfl | rfl | rfl
    · exact two 98 rfl (by simp)
    · exact two 102 rfl (by simp)
    · exact two 110 rfl (by simp)
    · exact two 114 rfl (by simp)
    · exact two 116 rfl (by simp)
  · have e8 : ¬ r = 8 := fun h => hr (by simp [h])
    have e12 : ¬ r = 12 := fun h => hr (by simp [h])
    have e10 : ¬ r = 10 := fun h => hr (by simp [h])
    have e13 : ¬ r = 13 := fun h => hr (by simp [h])
    have e9 : ¬ r = 9 := fun h => hr (by simp [h])
    refine (esc_six ao n zs r w hf hn (by simpa using e8) (by simpa using e12) (by simpa using e10) (by simpa using e13) (by simpa using e9)).mono ?_
    rintro e w' ⟨v', rfl, h1, h2⟩
    refine ⟨v', rfl, ?_, h2⟩
    have he : esc r = [92, 117, hexd (r / 4096 % 16), hexd (r / 256 % 16), hexd (r / 16 % 16), hexd (r % 16)] := by simp [esc, e8, e12, e10, e13, e9]
    rw [he, List.map_append]
    exact owns_mono h1 (Nat.le_succ _)

theorem ZZappendEscape_any (ao : Option Addr) (n : Nat) (zs : List Int) (r : Int) (w : World) (hf : Full w ao n zs) (hn : n ≤ 1048576) :
    Calls Try.prog 18 #[.slice ao n n, .int .i32 r] w fun e w' => ∃ v', e = .returned v' ∧ w'.ownsRow w.heap.size 5 1 v' (n + (esc r).length) ((zs ++ esc r).map (.int .u8)) ∧ Below w.heap.size w w' := by
  go_enter Try.func18, Try.ntmps18
  go_wp2_with fail
  refine (appendEscape_any ao n zs r _ hf hn).mono ?_
  rintro e w' ⟨v', rfl, h1, h2⟩
  go_wp2
  go_ret
  exact ⟨v', rfl, h1, h2⟩
end Go.Proofs.Qxb6601094a

/-
  The state of a slice that is appended to; sbSpace (27).
-/
import Derived.Test.Qxb6601094aApp
import Derived.Test.Qxb6601094aPlain
namespace Go.Proofs.Qxb6601094a
open Go.RowKit
set_option linter.unusedVariables false

theorem infoB : (Try.prog.info? 5).map (fun i => (i.zero, i.size, i.bytes)) = some (some (.int .u8 0), 1, 1) := by kernel_rfl

/-- The slice that came in as zs has been appended to: out. -/
structure App (B : Nat) (w0 : World) (a0 : Option Addr) (zs : List Int) (w : World) (ao : Option Addr) (n cap : Nat) (out : List Int) : Prop where
  dat : Dat 5 .u8 B w ao n cap (zs ++ out)
  grew : Grew w0 a0 w ao

theorem App.start {B : Nat} {w : World} {ao : Option Addr} {n cap : Nat} {zs : List Int} (h : Dat 5 .u8 B w ao n cap zs) : App B w ao zs w ao n cap [] := ⟨by rw [List.append_nil]; exact h, Grew.refl _ _⟩

theorem App.step {B : Nat} {w0 w w' : World} {a0 ao ao' : Option Addr} {n cap n' cap' : Nat} {zs out news : List Int} (h : App B w0 a0 zs w ao n cap out) (hd : Dat 5 .u8 B w' ao' n' cap' ((zs ++ out) ++ news)) (hg : Grew w ao w' ao') :
    App B w0 a0 zs w' ao' n' cap' (out ++ news) := ⟨by rw [← List.append_assoc]; exact hd, h.grew.trans hg⟩

theorem App.join {B : Nat} {w0 w w' : World} {a0 ao ao' : Option Addr} {n cap n' cap' : Nat} {zs out news : List Int} (h : App B w0 a0 zs w ao n cap out) (h' : App B w ao (zs ++ out) w' ao' n' cap' news) :
    App B w0 a0 zs w' ao' n' cap' (out ++ news) := h.step h'.dat h'.grew

theorem App.len {B : Nat} {w0 w : World} {a0 ao : Option Addr} {n cap : Nat} {zs out : List Int} (h : App B w0 a0 zs w ao n cap out) : zs.length + out.length = n := by
  have := h.dat.2.1
  rwa [List.length_append] at this

/-- What a function that appends ends in. -/
def AppEnd (B : Nat) (w0 : World) (a0 : Option Addr) (zs out : List Int) (e : Ending) (w : World) : Prop := ∃ ao n cap, e = .returned (.slice ao n cap) ∧ App B w0 a0 zs w ao n cap out

def spcB (b1 b2 b3 b4 b5 : Bool) : List Int := (if b1 then [32] else []) ++ (if b2 then [10] else []) ++ (if b3 then [9] else []) ++ (if b4 then [13] else []) ++ (if b5 then [32] else [])

/-- The spaces that the bits of sp choose. -/
def spc (sp : Int) : List Int := spcB (bits .and .u8 sp 1 != 0) (bits .and .u8 sp 2 != 0) (bits .and .u8 sp 4 != 0) (bits .and .u8 sp 8 != 0) (bits .and .u8 sp 16 != 0)

theorem spcB_len (b1 b2 b3 b4 b5 : Bool) : (spcB b1 b2 b3 b4 b5).length ≤ 5 := by
  cases b1 <;> cases b2 <;> cases b3 <;> cases b4 <;> cases b5 <;> decide
theorem spc_len (sp : Int) : (spc sp).length ≤ 5 := spcB_len _ _ _ _ _

set_option maxHeartbeats 2000000 in
theorem sbSpace_any (B : Nat) (ao : Option Addr) (n cap : Nat) (zs : List Int) (sp : Int) (w : World) (hd : Dat 5 .u8 B w ao n cap zs) (hn : n ≤ 70368744177664) :
    Calls Try.prog 27 #[.slice ao n cap, .int .u8 sp] w (AppEnd B w ao zs (spc sp)) := by
  have hA := App.start hd
  clear hd
  unfold spc
  obtain ⟨b1, h1⟩ : ∃ b, (bits .and .u8 sp 1 != 0) = b := ⟨_, rfl⟩
  obtain ⟨b2, h2⟩ : ∃ b, (bits .and .u8 sp 2 != 0) = b := ⟨_, rfl⟩
  obtain ⟨b3, h3⟩ : ∃ b, (bits .and .u8 sp 4 != 0) = b := ⟨_, rfl⟩
  obtain ⟨b4, h4⟩ : ∃ b, (bits .and .u8 sp 8 != 0) = b := ⟨_, rfl⟩
  obtain ⟨b5, h5⟩ : ∃ b, (bits .and .u8 sp 16 != 0) = b := ⟨_, rfl⟩
  rw [h1, h2, h3, h4, h5]
  cases b1 <;> cases b2 <;> cases b3 <;> cases b4 <;> cases b5
  all_goals
    go_enter Try.func27, Try.ntmps27
    go_wp2_with (at_builtin; refine wpList_app _ 22 5 .u8 1 Try.underlying22 infoB _ rfl _ _ rfl B _ _ 1 _ _ [_] rfl rfl rfl rfl hA.dat (by omega) (by omega) ?_; intro ao' n' cap' w' hd hg hn1 hn2; have hA2 := hA.step hd hg; clear hA hd hg; have hA := hA2; clear hA2)
    go_ret
    exact ⟨_, _, _, rfl, hA⟩
end Go.Proofs.Qxb6601094a

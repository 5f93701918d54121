/- '(*slotStore).reset(N)', 256 < N <= 2048: its head: every list is emptied, the four numbers are laid. -/
import Derived.Test.YbulkbykwReset
import Derived.Test.YbulkbykwAlloc
import Derived.Test.YbulkbykwLeaf
import Derived.BigRegion
namespace Go.Proofs.Ybulkbykw
open Go.ChangeShapes Go.WideShapes Go.ChangeAt Go.RowKit
set_option linter.unusedVariables false

/-- Behind the head. -/
structure Hd (M : Nat) (w wx : World) (f : Nat → Value) (n : Nat → Nat) (xs : Nat → List Value) (N : Int) (f1 : Nat → Value) (n1 : Nat → Nat) (xs1 : Nat → List Value) : Prop where
  ms : MS M wx f1 n1 xs1
  bel : Below M w wx
  same : ∀ j, j < 25 → f1 j = f j ∧ n1 j = n j ∧ xs1 j = xs j
  e25 : f1 25 = .int .i64 N
  e26 : f1 26 = .int .i64 0
  e27 : f1 27 = .int .i64 N
  e28 : f1 28 = .int .i64 N
  e31 : f1 31 = .slice none 0 0
  e34 : f1 34 = .slice none 0 0
  e35 : f1 35 = .slice none 0 0
  z29 : n1 29 = 0
  z30 : n1 30 = 0
  z32 : n1 32 = 0

theorem hd_mk {M : Nat} {w : World} {f : Nat → Value} {n : Nat → Nat} {xs : Nat → List Value} {N : Int} (h : MS M w f n xs) {a29 a30 a32 : Option Addr} {k29 k30 k32 : Nat}
    (e29 : f 29 = .slice a29 (n 29) k29) (e30 : f 30 = .slice a30 (n 30) k30) (e32 : f 32 = .slice a32 (n 32) k32) :
    ∃ f1 n1 xs1, Hd M w ((((((((((w.setCell ⟨M, 29, none⟩ (.slice a29 0 k29)).setCell ⟨M, 30, none⟩ (.slice a30 0 k30)).setCell ⟨M, 31, none⟩ (.slice none 0 0)).setCell ⟨M, 32, none⟩ (.slice a32 0 k32)).setCell ⟨M, 34, none⟩ (.slice none 0 0)).setCell ⟨M, 35, none⟩ (.slice none 0 0)).setCell ⟨M, 25, none⟩ (.int .i64 N)).setCell ⟨M, 26, none⟩ (.int .i64 0)).setCell ⟨M, 27, none⟩ (.int .i64 N)).setCell ⟨M, 28, none⟩ (.int .i64 N)).drew.drew f n xs N f1 n1 xs1 := by
  have h1 := h.cut0 (k := 29) (by omega) rfl e29
  have h2 := h1.cut0 (k := 30) (ao := a30) (cap := k30) (by omega) rfl (by simpa [upd] using e30)
  have h3 := (h2.set (k := 31) (by omega) rfl (.slice none 0 0)).cut0 (k := 32) (ao := a32) (cap := k32) (by omega) rfl (by simpa [upd] using e32)
  have F := ((((((h3.set (k := 34) (by omega) rfl (.slice none 0 0)).set (k := 35) (by omega) rfl (.slice none 0 0)).set (k := 25) (by omega) rfl (.int .i64 N)).set (k := 26) (by omega) rfl (.int .i64 0)).set (k := 27) (by omega) rfl (.int .i64 N)).set (k := 28) (by omega) rfl (.int .i64 N)).drew.drew
  refine ⟨_, _, _, F, ?_, fun j hj => ?_, by simp [upd], by simp [upd], by simp [upd], by simp [upd], by simp [upd], by simp [upd], by simp [upd], by simp [upd], by simp [upd], by simp [upd]⟩
  · exact ((((((((((Below.refl M w).setCell (p := ⟨M, 29, none⟩) (Nat.le_refl _) _).setCell (p := ⟨M, 30, none⟩) (Nat.le_refl _) _).setCell (p := ⟨M, 31, none⟩) (Nat.le_refl _) _).setCell (p := ⟨M, 32, none⟩) (Nat.le_refl _) _).setCell (p := ⟨M, 34, none⟩) (Nat.le_refl _) _).setCell (p := ⟨M, 35, none⟩) (Nat.le_refl _) _).setCell (p := ⟨M, 25, none⟩) (Nat.le_refl _) _).setCell (p := ⟨M, 26, none⟩) (Nat.le_refl _) _).setCell (p := ⟨M, 27, none⟩) (Nat.le_refl _) _).setCell (p := ⟨M, 28, none⟩) (Nat.le_refl _) _ |>.drew.drew
  · have q : ∀ k, 25 ≤ k → j ≠ k := fun k hk => by omega
    simp [upd, q 25 (by omega), q 26 (by omega), q 27 (by omega), q 28 (by omega), q 29 (by omega), q 30 (by omega), q 31 (by omega), q 32 (by omega), q 34 (by omega), q 35 (by omega)]
end Go.Proofs.Ybulkbykw

/- What the law reads behind the second track. -/
import Derived.Test.YbulkbykwTrack
import Derived.Test.YbulkbykwLeaf
import Derived.Test.YbulkbykwStoreParts
namespace Go.Proofs.Ybulkbykw
open Go.ChangeShapes Go.WideShapes Go.ChangeAt Go.RowKit
set_option linter.unusedVariables false

/-- M's plain cells. -/
structure Plain (M p ni : Nat) (w : World) (N : Int) : Prop where
  c0 : w.cell? ⟨M, 0, none⟩ = some (.pointer (some ⟨p, 0, none⟩))
  c1 : w.cell? ⟨M, 1, none⟩ = some (.bool false)
  c2 : w.cell? ⟨M, 2, none⟩ = some (.pointer (some ⟨M, 4, none⟩))
  c3 : w.cell? ⟨M, 3, none⟩ = some (.pointer (some ⟨M, 9, none⟩))
  c4 : ∃ a c, w.cell? ⟨M, 4, none⟩ = some (.slice a ni c)
  c9 : ∃ a c, w.cell? ⟨M, 9, none⟩ = some (.slice a ni c)
  z : ∀ k, emptied k = true → ∃ a c, w.cell? ⟨M, k, none⟩ = some (.slice a 0 c)
  c17 : w.cell? ⟨M, 17, none⟩ = some (.int .i64 N)
  c18 : w.cell? ⟨M, 18, none⟩ = some (.bool (decide (256 < N)))
  c24 : w.cell? ⟨M, 24, none⟩ = some (.int .i32 (-1))

/-- Flat: unset, and the row of -1. -/
structure FlatF (M : Nat) (w : World) (N : Int) (ao : Option Addr) (cap : Nat) : Prop where
  c23 : w.cell? ⟨M, 23, none⟩ = some (.int .i32 (-1))
  c22 : w.cell? ⟨M, 22, none⟩ = some (.slice ao N.toNat cap)
  row : ∀ j, j < N.toNat → ∃ g, ao = some ⟨g, 0, none⟩ ∧ ∀ i, i < N.toNat → w.cell? ⟨g, i, none⟩ = some (.int .i64 (-1))

/-- Shared: the store. -/
structure SharedF (M : Nat) (w : World) (N : Int) (d g cap : Nat) (ar : Option Addr) (cr : Nat) : Prop where
  c23 : w.cell? ⟨M, 23, none⟩ = some (.int .i32 d)
  c25 : w.cell? ⟨M, 25, none⟩ = some (.int .i64 N)
  c30 : w.cell? ⟨M, 30, none⟩ = some (.slice ar (d + 1) cr)
  c34 : w.cell? ⟨M, 34, none⟩ = some (.slice none 0 0)
  lf : LF M g d cap w

theorem plain_of {M p ni : Nat} {wr w' : World} {f f' : Nat → Value} {n' : Nat → Nat} {xs' : Nat → List Value} {N : Int} (e0 : f 0 = .pointer (some ⟨p, 0, none⟩)) (e1 : f 1 = .bool false) (e2 : f 2 = .pointer (some ⟨M, 4, none⟩)) (e3 : f 3 = .pointer (some ⟨M, 9, none⟩)) (e4 : ∃ a c, f 4 = .slice a ni c) (e9 : ∃ a c, f 9 = .slice a ni c)
    (T : TrackedM M wr w' f N f' n' xs') : Plain M p ni w' N := by
  refine ⟨?_, ?_, ?_, ?_, ?_, ?_, fun k hk => ?_, ?_, ?_, ?_⟩
  · rw [T.ms.cell 0 (by omega), T.low 0 (by omega) rfl, e0]
  · rw [T.ms.cell 1 (by omega), T.low 1 (by omega) rfl, e1]
  · rw [T.ms.cell 2 (by omega), T.low 2 (by omega) rfl, e2]
  · rw [T.ms.cell 3 (by omega), T.low 3 (by omega) rfl, e3]
  · obtain ⟨a, c, e⟩ := e4; exact ⟨a, c, by rw [T.ms.cell 4 (by omega), T.low 4 (by omega) rfl, e]⟩
  · obtain ⟨a, c, e⟩ := e9; exact ⟨a, c, by rw [T.ms.cell 9 (by omega), T.low 9 (by omega) rfl, e]⟩
  · have hj' : k = 6 ∨ k = 7 ∨ k = 8 ∨ k = 11 ∨ k = 12 ∨ k = 13 ∨ k = 14 := by simp [emptied] at hk; omega
    have hr : isRow k = true := by rcases hj' with rfl | rfl | rfl | rfl | rfl | rfl | rfl <;> rfl
    obtain ⟨a, c, e, _⟩ := T.ms.slice hr
    exact ⟨a, c, by rw [T.ms.cell k (by omega), e, T.zero k hk]⟩
  · rw [T.ms.cell 17 (by omega), T.e17]
  · rw [T.ms.cell 18 (by omega), T.e18]
  · rw [T.ms.cell 24 (by omega), T.e24]

theorem flat_of {M : Nat} {wr w' : World} {f f' : Nat → Value} {n' : Nat → Nat} {xs' : Nat → List Value} {N : Int} (T : TrackedM M wr w' f N f' n' xs') (hN : N ≤ 256) : ∃ ao cap, cap ≤ maxLen ∧ N.toNat ≤ cap ∧ FlatF M w' N ao cap := by
  obtain ⟨e23, e22⟩ := T.flat hN
  obtain ⟨ao, cap, e, hc, hm, _, _⟩ := T.ms.slice (k := 22) rfl
  rw [e22] at e hc
  refine ⟨ao, cap, hm, hc, by rw [T.ms.cell 23 (by omega), e23], by rw [T.ms.cell 22 (by omega), e], fun j hj => ?_⟩
  obtain ⟨g, cap', e', _, _⟩ := T.ms.slice_pos (k := 22) rfl (by omega)
  rw [e22] at e'
  rw [e'] at e
  simp only [Value.slice.injEq, true_and] at e
  refine ⟨g, e.1.symm, fun i hi => ?_⟩
  have ho := T.ms.rows 22 rfl
  rw [e', e22] at ho
  have hl : i < N.toNat * esz 22 := by show i < N.toNat * 1; omega
  rw [ho.cellAt i hl, T.ti.u22, e22]
  simp [hi]

theorem shared_of {M : Nat} {wr w' : World} {f f' : Nat → Value} {n' : Nat → Nat} {xs' : Nat → List Value} {N : Int} (T : TrackedM M wr w' f N f' n' xs') (hN : 256 < N) : ∃ d g cap ar cr, 1 ≤ d ∧ d ≤ 3 ∧ cap ≤ maxLen ∧ 8 * (d + 1) ≤ cap ∧ SharedF M w' N d g cap ar cr := by
  obtain ⟨d, e23, S⟩ := T.shared hN
  obtain ⟨g, cap, e, hc, hm⟩ := T.ms.slice_pos (k := 29) rfl (by rw [S.n29]; omega)
  obtain ⟨ar, cr, er, _, _, _, _⟩ := T.ms.slice (k := 30) rfl
  have ho := T.ms.rows 29 rfl
  rw [e] at ho
  have hcell : ∀ j, j < 8 * (d + 1) → w'.cell? ⟨g, j, none⟩ = (xs' 29)[j]? := fun j hj => ho.cellAt j (by rw [S.n29]; show j < 8 * (d + 1) * 1; omega)
  have d3 := S.d3
  refine ⟨d, g, cap, ar, cr, S.d1, S.d3, hm, by rw [← S.n29]; exact hc, ?_, ?_, ?_, ?_, ⟨?_, ?_, ?_, fun j hj => ?_, fun j h1 h2 => ?_⟩⟩
  · rw [T.ms.cell 23 (by omega), e23]
  · rw [T.ms.cell 25 (by omega), S.e25]
  · rw [T.ms.cell 30 (by omega), er, S.n30]
  · rw [T.ms.cell 34 (by omega), T.ti.e34]
  · rw [T.ms.cell 26 (by omega), S.e26]
  · rw [T.ms.cell 27 (by omega), S.e27]
  · rw [T.ms.cell 29 (by omega), e, S.n29]
  · rw [hcell j (by omega)]; exact S.leaf j hj
  · rw [hcell (j * 8) (by omega)]; exact S.chain j h1 h2

/-- A later world that has only made memory, or drawn. -/
structure Later (w w' : World) : Prop where
  cell : ∀ a v, w.cell? a = some v → w'.cell? a = some v
theorem Later.refl (w : World) : Later w w := ⟨fun _ _ h => h⟩
theorem Later.draws {w w' : World} (h : Later w w') (n : Nat) : Later w (w'.drewN n) := ⟨h.cell⟩
theorem Later.draw {w w' : World} (h : Later w w') : Later w w'.drew := ⟨h.cell⟩
theorem Later.alloc {w w' : World} (h : Later w w') (o : Obj) : Later w (w'.alloc o) := ⟨fun a v e => by
  have := h.cell a v e
  rw [World.cell?_alloc_lt _ _ _ (World.block_lt_of_cell? w' _ this)]; exact this⟩

theorem Plain.later {M p ni : Nat} {w w' : World} {N : Int} (h : Plain M p ni w N) (l : Later w w') : Plain M p ni w' N :=
  ⟨l.cell _ _ h.c0, l.cell _ _ h.c1, l.cell _ _ h.c2, l.cell _ _ h.c3, by obtain ⟨a, c, e⟩ := h.c4; exact ⟨a, c, l.cell _ _ e⟩, by obtain ⟨a, c, e⟩ := h.c9; exact ⟨a, c, l.cell _ _ e⟩, fun k hk => by obtain ⟨a, c, e⟩ := h.z k hk; exact ⟨a, c, l.cell _ _ e⟩, l.cell _ _ h.c17, l.cell _ _ h.c18, l.cell _ _ h.c24⟩
theorem FlatF.later {M : Nat} {w w' : World} {N : Int} {ao : Option Addr} {cap : Nat} (h : FlatF M w N ao cap) (l : Later w w') : FlatF M w' N ao cap :=
  ⟨l.cell _ _ h.c23, l.cell _ _ h.c22, fun j hj => by obtain ⟨g, e, hr⟩ := h.row j hj; exact ⟨g, e, fun i hi => l.cell _ _ (hr i hi)⟩⟩
theorem SharedF.later {M : Nat} {w w' : World} {N : Int} {d g cap : Nat} {ar : Option Addr} {cr : Nat} (h : SharedF M w N d g cap ar cr) (l : Later w w') : SharedF M w' N d g cap ar cr :=
  ⟨l.cell _ _ h.c23, l.cell _ _ h.c25, l.cell _ _ h.c30, l.cell _ _ h.c34, ⟨l.cell _ _ h.lf.c26, l.cell _ _ h.lf.c27, l.cell _ _ h.lf.c29, fun j hj => l.cell _ _ (h.lf.leaf j hj), fun j h1 h2 => l.cell _ _ (h.lf.chain j h1 h2)⟩⟩
end Go.Proofs.Ybulkbykw

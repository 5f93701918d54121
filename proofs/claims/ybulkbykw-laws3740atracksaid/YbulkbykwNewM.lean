/- 'NewMachine(p, false)': the machine as it is made. -/
import Derived.Test.YbulkbykwGrow
import Derived.Deep.DeepCutAuto
namespace Go.Proofs.Ybulkbykw
open Go.ChangeShapes Go.WideShapes Go.ChangeAt Go.RowKit
set_option linter.unusedVariables false

/-- The machine's cells as 'Machine{prog: p, longest: false}' lays them. -/
def zeroM (p : Nat) : List Value := [.pointer (some ⟨p, 0, none⟩), .bool false, .pointer none, .pointer none, .slice none 0 0, .int .u64 0, .slice none 0 0, .slice none 0 0, .slice none 0 0, .slice none 0 0, .int .u64 0, .slice none 0 0, .slice none 0 0, .slice none 0 0, .slice none 0 0, .slice none 0 0, .slice none 0 0, .int .i64 0, .bool false, .int .i32 0, .slice none 0 0, .slice none 0 0, .slice none 0 0, .int .i32 0, .int .i32 0, .int .i64 0, .int .i64 0, .int .i64 0, .int .i64 0, .slice none 0 0, .slice none 0 0, .slice none 0 0, .slice none 0 0, .int .u64 0, .slice none 0 0, .slice none 0 0, .slice none 0 0]
def f0 (p k : Nat) : Value := (zeroM p).getD k undef

theorem isRow_cases {k : Nat} (h : isRow k = true) : k = 6 ∨ k = 7 ∨ k = 8 ∨ k = 11 ∨ k = 12 ∨ k = 13 ∨ k = 14 ∨ k = 22 ∨ k = 29 ∨ k = 30 ∨ k = 32 := by
  simp [isRow] at h; omega

theorem f0_row (p : Nat) {k : Nat} (h : isRow k = true) : f0 p k = .slice none 0 0 := by
  rcases isRow_cases h with rfl | rfl | rfl | rfl | rfl | rfl | rfl | rfl | rfl | rfl | rfl <;> rfl

theorem ms_zero (p : Nat) (w : World) : MS w.heap.size (w.alloc (.cells (zeroM p).toArray 54)) (f0 p) (fun _ => 0) (fun _ => []) := by
  refine ⟨fun k hk => ?_, fun k => World.frozen?_alloc_new _ _ _ _, fun k hk => ?_, fun k k' hk hk' _ g hg => ?_⟩
  · rw [World.cell?_alloc_new]
    have : k < (zeroM p).length := hk
    simp [f0, List.getD, List.getElem?_eq_getElem this]
  · rw [f0_row p hk]; exact World.ownsRow_nil _ _ _ _
  · rw [f0_row p hk] at hg; cases hg

/-- The fresh machine: no row holds anything. -/
structure Fresh (M p ni : Nat) (w : World) (f : Nat → Value) (n : Nat → Nat) (xs : Nat → List Value) : Prop where
  ms : MS M w f n xs
  e0 : f 0 = .pointer (some ⟨p, 0, none⟩)
  e1 : f 1 = .bool false
  e2 : f 2 = .pointer (some ⟨M, 4, none⟩)
  e3 : f 3 = .pointer (some ⟨M, 9, none⟩)
  e4 : ∃ a c, f 4 = .slice a ni c
  e9 : ∃ a c, f 9 = .slice a ni c
  rows : ∀ k, isRow k = true → n k = 0 ∧ xs k = []
  e31 : f 31 = .slice none 0 0
  e34 : f 34 = .slice none 0 0
  e35 : f 35 = .slice none 0 0

theorem fresh_mk {M p ni : Nat} {w w2 : World} (h2 : MS M w2 (f0 p) (fun _ => 0) (fun _ => [])) (hB : Below M w w2) (a : Option Addr) (c : Nat) (a9 : Option Addr) (m9 c9 : Nat) (hm : m9 = ni) :
    Below M w ((((((((((((w2.setCell ⟨M, 4, none⟩ (.slice a ni c)).setCell ⟨M, 5, none⟩ (.int .u64 1)).setCell ⟨M, 6, none⟩ (.slice none 0 0)).setCell ⟨M, 7, none⟩ (.slice none 0 0)).setCell ⟨M, 8, none⟩ (.slice none 0 0)).setCell ⟨M, 9, none⟩ (.slice a9 m9 c9)).setCell ⟨M, 10, none⟩ (.int .u64 1)).setCell ⟨M, 11, none⟩ (.slice none 0 0)).setCell ⟨M, 12, none⟩ (.slice none 0 0)).setCell ⟨M, 13, none⟩ (.slice none 0 0)).setCell ⟨M, 2, none⟩ (.pointer (some ⟨M, 4, none⟩))).setCell ⟨M, 3, none⟩ (.pointer (some ⟨M, 9, none⟩))).drew.drew.drew ∧
    ∃ f n xs, Fresh M p ni ((((((((((((w2.setCell ⟨M, 4, none⟩ (.slice a ni c)).setCell ⟨M, 5, none⟩ (.int .u64 1)).setCell ⟨M, 6, none⟩ (.slice none 0 0)).setCell ⟨M, 7, none⟩ (.slice none 0 0)).setCell ⟨M, 8, none⟩ (.slice none 0 0)).setCell ⟨M, 9, none⟩ (.slice a9 m9 c9)).setCell ⟨M, 10, none⟩ (.int .u64 1)).setCell ⟨M, 11, none⟩ (.slice none 0 0)).setCell ⟨M, 12, none⟩ (.slice none 0 0)).setCell ⟨M, 13, none⟩ (.slice none 0 0)).setCell ⟨M, 2, none⟩ (.pointer (some ⟨M, 4, none⟩))).setCell ⟨M, 3, none⟩ (.pointer (some ⟨M, 9, none⟩))).drew.drew.drew f n xs := by
  subst hm
  constructor
  · exact ((((((((((((hB.setCell (p := ⟨M, 4, none⟩) (Nat.le_refl _) _).setCell (p := ⟨M, 5, none⟩) (Nat.le_refl _) _).setCell (p := ⟨M, 6, none⟩) (Nat.le_refl _) _).setCell (p := ⟨M, 7, none⟩) (Nat.le_refl _) _).setCell (p := ⟨M, 8, none⟩) (Nat.le_refl _) _).setCell (p := ⟨M, 9, none⟩) (Nat.le_refl _) _).setCell (p := ⟨M, 10, none⟩) (Nat.le_refl _) _).setCell (p := ⟨M, 11, none⟩) (Nat.le_refl _) _).setCell (p := ⟨M, 12, none⟩) (Nat.le_refl _) _).setCell (p := ⟨M, 13, none⟩) (Nat.le_refl _) _).setCell (p := ⟨M, 2, none⟩) (Nat.le_refl _) _).setCell (p := ⟨M, 3, none⟩) (Nat.le_refl _) _).drew.drew.drew
  · have F := ((((((((((((h2.set (k := 4) (by omega) rfl (.slice a m9 c)).set (k := 5) (by omega) rfl (.int .u64 1)).nil (k := 6) (by omega) rfl).nil (k := 7) (by omega) rfl).nil (k := 8) (by omega) rfl).set (k := 9) (by omega) rfl (.slice a9 m9 c9)).set (k := 10) (by omega) rfl (.int .u64 1)).nil (k := 11) (by omega) rfl).nil (k := 12) (by omega) rfl).nil (k := 13) (by omega) rfl).set (k := 2) (by omega) rfl (.pointer (some ⟨M, 4, none⟩))).set (k := 3) (by omega) rfl (.pointer (some ⟨M, 9, none⟩))).drew.drew.drew
    refine ⟨_, _, _, F, by simp [upd, f0, zeroM], by simp [upd, f0, zeroM], by simp [upd], by simp [upd], ⟨a, c, by simp [upd]⟩, ⟨a9, c9, by simp [upd]⟩, fun k hk => ?_, by simp [upd, f0, zeroM], by simp [upd, f0, zeroM], by simp [upd, f0, zeroM]⟩
    rcases isRow_cases hk with rfl | rfl | rfl | rfl | rfl | rfl | rfl | rfl | rfl | rfl | rfl <;> simp [upd]

set_option maxRecDepth 100000 in
set_option maxHeartbeats 2000000 in
theorem newm_any (p ni cn : Nat) (ai : Option Addr) (w : World) (hni : ni ≤ 15) (hp : w.cell? ⟨p, 0, none⟩ = some (.slice ai ni cn)) (hpl : p < w.heap.size) :
    Calls Yba.prog 7 #[.pointer (some ⟨p, 0, none⟩), .bool false] w fun e w' => e = .returned (.pointer (some ⟨w.heap.size, 0, none⟩)) ∧ Below w.heap.size w w' ∧ ∃ f n xs, Fresh w.heap.size p ni w' f n xs := by
  have HZ : Hid (MS w.heap.size (w.alloc (.cells (zeroM p).toArray 54)) (f0 p) (fun _ => 0) (fun _ => [])) := ms_zero p w
  have HG : Hid (Calls Yba.prog 13 #[.slice none 0 0, .int .i64 (2 * (ni : Int))] (w.alloc (.cells (zeroM p).toArray 54)) fun e w' => ∃ ao cap, 2 * ni ≤ cap ∧ cap ≤ 9223372036854775807 ∧ (ao = none → cap = 0) ∧ e = .returned (.slice ao 0 cap) ∧ (w.alloc (.cells (zeroM p).toArray 54)).grownBy w' none) := by
    have := grow_u64 (2 * ni) (w.alloc (.cells (zeroM p).toArray 54)) (by omega)
    rw [show ((2 * ni : Nat) : Int) = 2 * (ni : Int) from by omega] at this
    exact this
  go_enter Yba.func7, Yba.ntmps7
  go_wp2_with fail
  refine HG.out.mono ?_
  rintro e w2 ⟨ao, cap, hc1, hc2, hc3, rfl, hg2⟩
  have h2 := HZ.out.grow hg2
  have hB2 : Hid (Below w.heap.size w w2) := ((Below.refl _ w).alloc (Nat.le_refl _) _).grown hg2 (by simp) (fun k h => by cases h)
  clear HG HZ hg2 hp
  have cz : ∀ k, k < 37 → w2.cell? ⟨w.heap.size, k, none⟩ = some (f0 p k) := h2.cell
  have fz := h2.fro
  have c4 := cz 4 (by omega); have c5 := cz 5 (by omega); have c6 := cz 6 (by omega); have c7 := cz 7 (by omega); have c8 := cz 8 (by omega)
  have c9 := cz 9 (by omega); have c10 := cz 10 (by omega); have c11 := cz 11 (by omega); have c12 := cz 12 (by omega); have c13 := cz 13 (by omega); have c2 := cz 2 (by omega); have c3 := cz 3 (by omega)
  clear cz
  have b1 : (ni : Int) ≤ (cap : Int) := by omega
  have b2 : 2 * (ni : Int) ≤ (cap : Int) := by omega
  by_cases hcn : cap = ni
  · obtain rfl : ni = 0 := by omega
    subst hcn
    go_wp2_with fail
    go_region
    go_wp2_with fail
    go_region
    go_wp2_with fail
    go_region
    go_wp2
    go_ret
    refine ⟨rfl, ?_⟩
    exact fresh_mk (ni := 0) h2 hB2.out _ _ _ _ _ rfl
  · go_wp2_with fail
    go_region
    go_wp2_with fail
    go_region
    go_wp2_with fail
    go_region
    go_wp2
    go_ret
    refine ⟨rfl, ?_⟩
    exact fresh_mk h2 hB2.out _ _ _ _ _ (by omega)
end Go.Proofs.Ybulkbykw

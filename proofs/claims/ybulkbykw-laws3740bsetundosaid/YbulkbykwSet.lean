/- '(*slotTracker).set': on flat slots; on shared ones ('note'), where the row of Saves has room. -/
import Derived.Test.YbulkbykwNoted
import Derived.Test.YbulkbykwRestore
import Derived.Test.YbulkbykwRestore2
namespace Go.Proofs.Ybulkbykw
open Go.ChangeShapes Go.WideShapes Go.ChangeAt Go.RowKit
set_option linter.unusedVariables false

set_option maxHeartbeats 400000 in
theorem set_flat (p : Option Addr) (g n c k : Nat) (ki e old : Int) (w : World) (hki : ki = (k : Int)) (hk : k < n) (hmax : n ≤ 1048576) (hc : w.cell? ⟨g, k, none⟩ = some (.int .i64 old)) (hf : w.frozen? ⟨g, k, none⟩ = false) :
    Calls Yba.prog 12 #[.pointer p, .slice (some ⟨g, 0, none⟩) n c, .int .i64 ki, .int .i64 e] w fun r w' => r = .returned (.int .i64 old) ∧ w' = w.setCell ⟨g, k, none⟩ (.int .i64 e) := by
  subst hki
  have hn : ((n : Int) == 0) = false := by simp; omega
  go_enter Yba.func12, Yba.ntmps12
  go_wp2
  go_ret
  exact ⟨rfl, rfl⟩

set_option maxHeartbeats 400000 in
theorem note_any (tb g n cap base : Nat) (ts : List (Int × Int × Int)) (i e : Int) (w : World) (hn : n < cap) (hne : tb ≠ g) (hlt : tb < w.heap.size)
    (h3 : w.cell? ⟨tb, 3, none⟩ = some (.slice (some ⟨g, 0, none⟩) n cap)) (hf3 : w.frozen? ⟨tb, 3, none⟩ = false) (hown : w.ownsRow base 66 3 (.slice (some ⟨g, 0, none⟩) n cap) n (tcs ts)) :
    Calls Yba.prog 15 #[.pointer (some ⟨tb, 0, none⟩), .int .i64 i, .int .i64 e] w fun r w' => r = .returned (.tuple #[]) ∧
      ∃ w1, w1.ownsRow base 66 3 (.slice (some ⟨g, 0, none⟩) (n + 1) cap) (n + 1) (tcs (ts ++ [(i, e, -1)])) ∧ (∃ o, (w.alloc o).grownBy w1 (some g)) ∧ w' = w1.setCell ⟨tb, 3, none⟩ (.slice (some ⟨g, 0, none⟩) (n + 1) cap) := by
  obtain ⟨i0, hi, hz0, hz1, hz2⟩ := info_parts info66
  go_enter Yba.func15, Yba.ntmps15
  go_wp2_with (at_builtin; refine wpList_append_fits _ rfl (.tmp 10) (.tmp 14) 45 rfl base 66 i0 3 Yba.underlying45 hi hz1 g n cap _ rfl (hown.alloc _) ⟨w.heap.size, 0, none⟩ 1 1 (tc (i, e, -1)) rfl rfl (three_cells _ (i, e, -1) _ rfl _) (tc_one _) (by omega) ?_; intro w1 hown1 hgrow1; have hc3 : w1.cell? ⟨tb, 3, none⟩ = some (.slice (some ⟨g, 0, none⟩) n cap) := hgrow1.cell (by rw [World.cell?_alloc_lt _ _ _ hlt]; exact h3) (by simpa using hne); have hd3 : w1.frozen? ⟨tb, 3, none⟩ = false := (World.frozen?_of_block (a := ⟨tb, 3, none⟩) (hgrow1.block tb (by simp; omega) (by simpa using hne))).trans (by rw [World.frozen?_alloc_past _ _ _ hlt]; exact hf3))
  go_returns
  exact ⟨rfl, w1, by rw [tcs_snoc]; exact hown1, ⟨_, hgrow1⟩, rfl⟩

set_option maxHeartbeats 400000 in
theorem set_shared (tb g n cap base : Nat) (ts : List (Int × Int × Int)) (i e : Int) (fo : Option Addr) (fc : Nat) (w : World) (hn : n < cap) (hne : tb ≠ g) (hlt : tb < w.heap.size)
    (h3 : w.cell? ⟨tb, 3, none⟩ = some (.slice (some ⟨g, 0, none⟩) n cap)) (hf3 : w.frozen? ⟨tb, 3, none⟩ = false) (hown : w.ownsRow base 66 3 (.slice (some ⟨g, 0, none⟩) n cap) n (tcs ts)) :
    Calls Yba.prog 12 #[.pointer (some ⟨tb, 0, none⟩), .slice fo 0 fc, .int .i64 i, .int .i64 e] w fun r w' => r = .returned (.int .i64 0) ∧
      ∃ w1, w1.ownsRow base 66 3 (.slice (some ⟨g, 0, none⟩) (n + 1) cap) (n + 1) (tcs (ts ++ [(i, e, -1)])) ∧ (∃ o, (w.alloc o).grownBy w1 (some g)) ∧ w' = w1.setCell ⟨tb, 3, none⟩ (.slice (some ⟨g, 0, none⟩) (n + 1) cap) := by
  have hN := note_any tb g n cap base ts i e w hn hne hlt h3 hf3 hown
  have HN := hN
  clear hN hown h3 hf3
  go_enter Yba.func12, Yba.ntmps12
  go_wp2_with fail
  refine HN.mono ?_
  rintro r w' ⟨rfl, w1, h1, h2, rfl⟩
  go_wp2
  go_ret
  exact ⟨rfl, w1, h1, h2, rfl⟩
end Go.Proofs.Ybulkbykw

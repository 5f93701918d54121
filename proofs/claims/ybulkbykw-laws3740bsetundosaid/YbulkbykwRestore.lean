import Derived.Test.YbulkbykwCommon
namespace Go.Proofs.Ybulkbykw
open Go.ChangeShapes Go.WideShapes Go.ChangeAt Go.RowKit
set_option linter.unusedVariables false

set_option maxHeartbeats 400000 in
theorem restore_flat (p : Option Addr) (g n c k : Nat) (ki e old : Int) (w : World) (hki : ki = (k : Int)) (hk : k < n) (hmax : n ≤ 1048576) (hc : w.cell? ⟨g, k, none⟩ = some (.int .i64 old)) (hf : w.frozen? ⟨g, k, none⟩ = false) :
    Calls Yba.prog 10 #[.pointer p, .slice (some ⟨g, 0, none⟩) n c, .int .i64 ki, .int .i64 e] w fun r w' => r = .returned (.tuple #[]) ∧ w' = w.setCell ⟨g, k, none⟩ (.int .i64 e) := by
  subst hki
  go_enter Yba.func10, Yba.ntmps10
  go_wp2
  go_returns
  exact ⟨rfl, rfl⟩
end Go.Proofs.Ybulkbykw

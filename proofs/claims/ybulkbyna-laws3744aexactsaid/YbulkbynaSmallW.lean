/- The law's 'same', and math.Inf, math.IsInf, math.IsNaN at this program. -/
import Derived.Test.YbulkbynaRows
import Derived.Test.YbulkbynaFloats
import Derived.WalkKit
import Derived.WalkSpells
import Derived.ProofKit
import Derived.OpenShut
import Derived.Below
import Derived.Handy
namespace Go.Proofs.Ybulkbyna
open Go.ChangeShapes Go.WideShapes Go.ChangeAt Go.RowKit
set_option linter.unusedVariables false

theorem isnan_any (x : Nat) (w : World) : Calls Yba.prog 15 #[.float .f64 x] w fun e w' => e = .returned (.bool (FloatKind.f64.format.order x x != some .eq)) ∧ w' = w := by
  go_enter Yba.func15, Yba.ntmps15
  go_wp2
  go_ret
  exact ⟨rfl, rfl⟩

theorem same_any (x y : Nat) (w : World) (h : Same x y) : Calls Yba.prog 8 #[.float .f64 x, .float .f64 y] w fun e w' => e = .returned (.bool true) ∧ w' = w := by
  rcases h with rfl | ⟨h1, h2⟩
  · by_cases hn : NaN x
    · have e1 : FloatKind.f64.format.order x x = none := order_nan_left hn
      clear hn
      go_enter Yba.func8, Yba.ntmps8
      go_wp2
      go_ret
      exact ⟨rfl, rfl⟩
    · have e1 : FloatKind.f64.format.order x x = some .eq := order_self hn
      clear hn
      go_enter Yba.func8, Yba.ntmps8
      go_wp2
      go_ret
      exact ⟨rfl, rfl⟩
  · have e1 : FloatKind.f64.format.order x x = none := order_nan_left h1
    have e2 : FloatKind.f64.format.order y y = none := order_nan_left h2
    clear h1 h2
    go_enter Yba.func8, Yba.ntmps8
    go_wp2
    go_ret
    exact ⟨rfl, rfl⟩

theorem inf_any (w : World) : Calls Yba.prog 6 #[.int .i64 1] w fun e w' => e = .returned (.float .f64 9218868437227405312) ∧ w' = w := by
  have h12 : ∀ w, (callFunc 12 #[.int .u64 9218868437227405312]).run Yba.prog w = .ok (.value (.float .f64 9218868437227405312)) w := fun _ => by kernel_rfl
  go_enter Yba.func6, Yba.ntmps6
  go_wp2
  go_ret
  exact ⟨rfl, rfl⟩

theorem isinf_any (x : Nat) (w : World) : Calls Yba.prog 20 #[.float .f64 x, .int .i64 1] w fun e w' => e = .returned (.bool (FloatKind.f64.format.order x 9218868437227405311 == some .gt)) ∧ w' = w := by
  go_enter Yba.func20, Yba.ntmps20
  go_wp2
  go_ret
  exact ⟨rfl, rfl⟩
end Go.Proofs.Ybulkbyna

/- '(*slotTracker).reset', shared: 256 < N <= 2048; both ways in one contract. -/
import Derived.Test.YbulkbykwStore
import Derived.Test.YbulkbykwTrack
namespace Go.Proofs.Ybulkbykw
open Go.ChangeShapes Go.WideShapes Go.ChangeAt Go.RowKit
set_option linter.unusedVariables false

theorem head4_mid (f : Nat → Value) (N : Int) {k : Nat} (h1 : 24 < k) : head4 f N k = f k := by
  unfold head4; rw [upd_other _ _ (by omega), upd_other _ _ (by omega), upd_other _ _ (by omega), upd_other _ _ (by omega)]

set_option maxRecDepth 100000 in
set_option maxHeartbeats 1000000 in
theorem reset_shared (M : Nat) (w : World) (f : Nat → Value) (n : Nat → Nat) (xs : Nat → List Value) (N : Int) (h : MS M w f n xs) (ht : TI f n xs) (hN : 256 < N) (hN' : N ≤ 2048) :
    Calls Yba.prog 14 #[.pointer (some ⟨M, 17, none⟩), .int .i64 N] w fun e w' => e = .returned (.tuple #[]) ∧ ∃ f' n' xs', Tracked M w w' f n N f' n' xs' := by
  have c17 := h.cell 17 (by omega)
  have c18 := h.cell 18 (by omega)
  have c23 := h.cell 23 (by omega)
  have c24 := h.cell 24 (by omega)
  have fz := h.fro
  have HS := store_any M (head4w w M N) (head4 f N) n xs N (ms_head4 N h) (by rw [head4_mid f N (by omega)]; exact ht.e31) (by rw [head4_mid f N (by omega)]; exact ht.e34) (by rw [head4_mid f N (by omega)]; exact ht.e35) hN hN'
  have hdec : decide (256 < N) = true := by simpa using hN
  have hW : head4w w M N = (((w.setCell ⟨M, 17, none⟩ (.int .i64 N)).setCell ⟨M, 18, none⟩ (.bool true)).setCell ⟨M, 23, none⟩ (.int .i32 (-1))).setCell ⟨M, 24, none⟩ (.int .i32 (-1)) := by unfold head4w; rw [hdec]
  have HS' : Hid (Calls Yba.prog 16 #[.pointer (some ⟨M, 25, none⟩), .int .i64 N] ((((w.setCell ⟨M, 17, none⟩ (.int .i64 N)).setCell ⟨M, 18, none⟩ (.bool true)).setCell ⟨M, 23, none⟩ (.int .i32 (-1))).setCell ⟨M, 24, none⟩ (.int .i32 (-1))) fun e w' => ∃ (d : Nat) (top : Int) (f' : Nat → Value) (n' : Nat → Nat) (xs' : Nat → List Value), 1 ≤ d ∧ d ≤ 3 ∧ e = .returned (.int .i32 d) ∧ RS M (head4w w M N) w' (head4 f N) n xs N d top (d + 1) f' n' xs' ∧ (∀ j, j < 8 → (xs' 29)[j]? = some (.int .i64 (-1))) ∧ ∀ j, 1 ≤ j → j ≤ d → (xs' 29)[j * 8]? = some (.int .i64 ((j : Int) - 1))) := by
    unfold Hid; rw [← hW]; exact HS
  clear hW
  have HT : Hid (TI f n xs) := ht
  clear h ht HS
  go_enter Yba.func14, Yba.ntmps14
  go_wp2_with fail
  refine HS'.out.mono ?_
  rintro e w1 ⟨d, top, f1, n1, xs1, hd1, hd3, rfl, R, hleaf, hchain⟩
  have z23 := R.ms.cell 23 (by omega)
  have fz1 := R.ms.fro
  have HX : Hid ((∀ j, j < 8 → (xs1 29)[j]? = some (.int .i64 (-1))) ∧ ∀ j, 1 ≤ j → j ≤ d → (xs1 29)[j * 8]? = some (.int .i64 ((j : Int) - 1))) := ⟨hleaf, hchain⟩
  clear hleaf hchain HS'
  go_wp2
  go_returns
  have s := R.same
  have t := HT.out
  refine ⟨rfl, _, n1, xs1, R.ms.set (k := 23) (by omega) rfl (.int .i32 d), ?_, fun k hk => ?_, ?_, ?_, ?_, ⟨?_, ?_, ?_, ?_, ?_⟩, fun h => by omega, fun _ => ⟨d, upd_same _ _ _, hd1, hd3, ?_, ?_, ?_, R.n30, R.n29, HX.out.1, HX.out.2⟩⟩
  · exact ((below_head4 w N).trans R.bel).setCell (by simp) _
  · rw [upd_other _ _ (by omega)]; exact ⟨(s k (by omega)).1.trans (head4_low f N hk), (s k (by omega)).2.1⟩
  · rw [upd_other _ _ (by omega), (s 17 (by omega)).1]; simp [head4, upd]
  · rw [upd_other _ _ (by omega), (s 18 (by omega)).1]; simp [head4, upd]
  · rw [upd_other _ _ (by omega), (s 24 (by omega)).1]; simp [head4, upd]
  · rw [upd_other _ _ (by omega)]; exact R.e31
  · rw [upd_other _ _ (by omega)]; exact R.e34
  · rw [upd_other _ _ (by omega)]; exact R.e35
  · rw [(s 22 (by omega)).2.2, (s 22 (by omega)).2.1]; exact t.u22
  · rw [(s 22 (by omega)).2.1]; exact t.b22
  · rw [upd_other _ _ (by omega)]; exact R.e25
  · rw [upd_other _ _ (by omega)]; exact R.e26
  · rw [upd_other _ _ (by omega)]; exact R.e27

theorem reset_said : ResetSaid := fun M w f n xs N h ht h0 h1 => by
  by_cases hN : N ≤ 256
  · exact reset_flat M w f n xs N h ht hN h0
  · exact reset_shared M w f n xs N h ht (by omega) h1
end Go.Proofs.Ybulkbykw

/- '(*slotTracker).reset', flat: n at most 256. -/
import Derived.Test.YbulkbykwMach
import Derived.Test.YbulkbykwRestore2
import Derived.Maps.AppendAt
import Derived.Deep.DeepCutAuto
namespace Go.Proofs.Ybulkbykw
open Go.ChangeShapes Go.WideShapes Go.ChangeAt Go.RowKit
set_option linter.unusedVariables false

/-- What holds of the tracker between two resets. -/
structure TI (f : Nat → Value) (n : Nat → Nat) (xs : Nat → List Value) : Prop where
  e31 : f 31 = .slice none 0 0
  e34 : f 34 = .slice none 0 0
  e35 : f 35 = .slice none 0 0
  u22 : xs 22 = List.replicate (n 22) (.int .i64 (-1))
  b22 : n 22 ≤ 256

/-- The store behind a shared reset: n slots, eight entries a node, d levels above the leaf 0; node j's first entry is j - 1. -/
structure Stored (f : Nat → Value) (n : Nat → Nat) (xs : Nat → List Value) (N : Int) (d : Nat) : Prop where
  d1 : 1 ≤ d
  d3 : d ≤ 3
  e25 : f 25 = .int .i64 N
  e26 : f 26 = .int .i64 d
  e27 : f 27 = .int .i64 8
  n30 : n 30 = d + 1
  n29 : n 29 = 8 * (d + 1)
  leaf : ∀ j, j < 8 → (xs 29)[j]? = some (.int .i64 (-1))
  chain : ∀ j, 1 ≤ j → j ≤ d → (xs 29)[j * 8]? = some (.int .i64 ((j : Int) - 1))

/-- What '(*slotTracker).reset(N)' leaves. -/
structure Tracked (M : Nat) (w w' : World) (f : Nat → Value) (n : Nat → Nat) (N : Int) (f' : Nat → Value) (n' : Nat → Nat) (xs' : Nat → List Value) : Prop where
  ms : MS M w' f' n' xs'
  bel : Below M w w'
  low : ∀ k, k < 17 → f' k = f k ∧ n' k = n k
  e17 : f' 17 = .int .i64 N
  e18 : f' 18 = .bool (decide (256 < N))
  e24 : f' 24 = .int .i32 (-1)
  ti : TI f' n' xs'
  flat : N ≤ 256 → f' 23 = .int .i32 (-1) ∧ n' 22 = N.toNat
  shared : 256 < N → ∃ d : Nat, f' 23 = .int .i32 d ∧ Stored f' n' xs' N d

/-- The four stores at the head. -/
def head4 (f : Nat → Value) (N : Int) : Nat → Value := upd (upd (upd (upd f 17 (.int .i64 N)) 18 (.bool (decide (256 < N)))) 23 (.int .i32 (-1))) 24 (.int .i32 (-1))
def head4w (w : World) (M : Nat) (N : Int) : World := (((w.setCell ⟨M, 17, none⟩ (.int .i64 N)).setCell ⟨M, 18, none⟩ (.bool (decide (256 < N)))).setCell ⟨M, 23, none⟩ (.int .i32 (-1))).setCell ⟨M, 24, none⟩ (.int .i32 (-1))
theorem ms_head4 {M : Nat} {w : World} {f : Nat → Value} {n : Nat → Nat} {xs : Nat → List Value} (N : Int) (h : MS M w f n xs) : MS M (head4w w M N) (head4 f N) n xs :=
  (((h.set (k := 17) (by omega) rfl _).set (k := 18) (by omega) rfl _).set (k := 23) (by omega) rfl _).set (k := 24) (by omega) rfl _
theorem below_head4 {M : Nat} (w : World) (N : Int) : Below M w (head4w w M N) :=
  ((((Below.refl M w).setCell (p := ⟨M, 17, none⟩) (Nat.le_refl _) _).setCell (p := ⟨M, 18, none⟩) (Nat.le_refl _) _).setCell (p := ⟨M, 23, none⟩) (Nat.le_refl _) _).setCell (p := ⟨M, 24, none⟩) (Nat.le_refl _) _
theorem head4_low (f : Nat → Value) (N : Int) {k : Nat} (h : k < 17) : head4 f N k = f k := by
  unfold head4; rw [upd_other _ _ (by omega), upd_other _ _ (by omega), upd_other _ _ (by omega), upd_other _ _ (by omega)]

set_option maxRecDepth 100000 in
set_option maxHeartbeats 1000000 in
theorem reset_flat (M : Nat) (w : World) (f : Nat → Value) (n : Nat → Nat) (xs : Nat → List Value) (N : Int) (h : MS M w f n xs) (ht : TI f n xs) (hN : N ≤ 256) (hN0 : -2048 ≤ N) :
    Calls Yba.prog 14 #[.pointer (some ⟨M, 17, none⟩), .int .i64 N] w fun e w' => e = .returned (.tuple #[]) ∧ ∃ f' n' xs', Tracked M w w' f n N f' n' xs' := by
  obtain ⟨i0, hi, hz0, hz1, hz2⟩ := info_parts info3
  obtain ⟨a22, k22, e22, l22, m22, _, _⟩ := h.slice (k := 22) rfl
  have c22 := h.cell 22 (by omega)
  rw [e22] at c22
  have c17 := h.cell 17 (by omega)
  have c18 := h.cell 18 (by omega)
  have c23 := h.cell 23 (by omega)
  have c24 := h.cell 24 (by omega)
  have fz := h.fro
  have H : Hid (MS M w f n xs) := h
  have HT : Hid (TI f n xs) := ht
  have b22 := ht.b22
  clear h ht
  by_cases hne : (n 22 : Int) = N
  · have hb : ((n 22 : Int) != N) = false := by simp [hne]
    have HN : Hid ((n 22 : Int) = N) := hne
    clear hne
    go_enter Yba.func14, Yba.ntmps14
    go_wp2
    go_returns
    refine ⟨rfl, head4 f N, n, xs, ms_head4 N H.out, below_head4 w N, fun k hk => ⟨head4_low f N hk, rfl⟩, by simp [head4, upd], by simp [head4, upd], by simp [head4, upd], ?_, fun _ => ⟨by simp [head4, upd], by have := HN.out; omega⟩, fun h => by omega⟩
    have t := HT.out
    exact ⟨by simp [head4, upd, t.e31], by simp [head4, upd, t.e34], by simp [head4, upd, t.e35], t.u22, t.b22⟩
  · have hb : ((n 22 : Int) != N) = true := by simpa using hne
    clear hne
    have H4 : Hid (MS M (head4w w M N) (head4 f N) n xs) := ms_head4 N H.out
    have HC : Hid (MS M ((head4w w M N).setCell ⟨M, 22, none⟩ (.slice a22 0 k22)) (upd (head4 f N) 22 (.slice a22 0 k22)) (upd n 22 0) (upd xs 22 [])) := H4.out.cut0 (k := 22) (by omega) rfl (by unfold head4; rw [upd_other _ _ (by omega), upd_other _ _ (by omega), upd_other _ _ (by omega), upd_other _ _ (by omega)]; exact e22)
    have HB : Hid (Below M w ((head4w w M N).setCell ⟨M, 22, none⟩ (.slice a22 0 k22))) := (below_head4 w N).setCell (p := ⟨M, 22, none⟩) (Nat.le_refl _) _
    go_enter Yba.func14, Yba.ntmps14
    go_wp2
    clear c22 c17 c18 c23 c24 fz e22
    go_loopw [47] (fun i wr => ∃ k : Nat, (k : Int) ≤ N.toNat ∧ i = .int .i64 k ∧ ∃ f' n' xs', MS M wr f' n' xs' ∧ Below M w wr ∧ n' 22 = k ∧ xs' 22 = List.replicate k (.int .i64 (-1)) ∧ ∀ j, j ≠ 22 → f' j = head4 f N j ∧ n' j = n j) (fun i _ => N.toNat - (intOf i).toNat)
    case atStart => exact ⟨0, by omega, rfl, _, _, _, HC.out, HB.out, upd_same _ _ _, upd_same _ _ _, fun j hj => ⟨upd_other _ _ hj, upd_other _ _ hj⟩⟩
    case round =>
      obtain ⟨k, hk, rfl, f1, n1, xs1, h1, hB1, hn1, hx1, hs1⟩ := hrel
      clear HC HB H4 H
      obtain ⟨a1, k1, e1, l1, m1, _, _⟩ := h1.slice (k := 22) rfl
      have c22 := h1.cell 22 (by omega)
      rw [e1, hn1] at c22
      rw [hn1] at e1
      have fz := h1.fro
      have E : Hid (f1 22 = .slice a1 k k1 ∧ n1 22 = k ∧ xs1 22 = List.replicate k (.int .i64 (-1)) ∧ ∀ j, j ≠ 22 → f1 j = head4 f N j ∧ n1 j = n j) := ⟨e1, hn1, hx1, hs1⟩
      clear e1 hn1 hx1 hs1 l1
      by_cases hkN : (k : Int) < N
      · have hm : k + 1 ≤ maxLen := by unfold maxLen; omega
        go_wp2_with (at_builtin; refine wpList_append_own_at _ rfl (.tmp 53) (.tmp 54) 23 rfl (M + 1) 3 i0 (.int .i64 0) 1 8 Yba.underlying23 hi hz0 hz1 hz2 rfl (by omega) (.slice a1 k k1) k (xs1 22) rfl (by have := (h1.rows 22 rfl).alloc (.cells #[.int .i64 (-1)] 3); rw [E.out.1, E.out.2.1] at this; exact this) ⟨wr.heap.size, 0, none⟩ 1 1 [.int .i64 (-1)] rfl rfl (one_cell _ _ _ rfl _) (by simp [Value.oneCell']) hm (by omega) (by have := h1.lt; simp; omega) ?_; intro v1 w1 hown1 hgrow1 _ hat1; obtain ⟨ao1, q1, rfl⟩ := own_shape hown1; rw [← E.out.1] at hgrow1 hat1; have cg := (h1.alloc _).cells_grown (k := 22) rfl hgrow1; have cz := cg.1 22 (by omega); have fz1 := cg.2; rw [E.out.1] at cz)
        go_roundw
        case rel =>
          have hl := h1.lt
          refine ⟨k + 1, by omega, by go_num, _, _, _, (h1.alloc _).append (k := 22) (by omega) rfl hgrow1 hown1 (Nat.le_refl _) hat1, ?_, upd_same _ _ _, ?_, fun j hj => ?_⟩
          · exact ((hB1.alloc (by omega) _).trans ((h1.alloc _).below_grown (k := 22) rfl hgrow1)).setCell (by simp) _
          · rw [upd_same, E.out.2.2.1, List.replicate_succ']
          · rw [upd_other _ _ hj, upd_other _ _ hj]; exact E.out.2.2.2 j hj
        case measure => simp [intOf]; omega
      · have hkN' : N ≤ (k : Int) := by omega
        go_wp2
        go_returns
        have t := HT.out
        have g := E.out.2.2.2
        refine ⟨rfl, f1, n1, xs1, h1, hB1, fun j hj => ⟨(g j (by omega)).1.trans (head4_low f N hj), (g j (by omega)).2⟩, ?_, ?_, ?_, ⟨?_, ?_, ?_, by rw [E.out.2.2.1, E.out.2.1], by rw [E.out.2.1]; omega⟩, fun _ => ⟨?_, by rw [E.out.2.1]; omega⟩, fun h => by omega⟩
        · rw [(g 17 (by omega)).1]; simp [head4, upd]
        · rw [(g 18 (by omega)).1]; simp [head4, upd]
        · rw [(g 24 (by omega)).1]; simp [head4, upd]
        · rw [(g 31 (by omega)).1]; simp [head4, upd, t.e31]
        · rw [(g 34 (by omega)).1]; simp [head4, upd, t.e34]
        · rw [(g 35 (by omega)).1]; simp [head4, upd, t.e35]
        · rw [(g 23 (by omega)).1]; simp [head4, upd]
end Go.Proofs.Ybulkbykw

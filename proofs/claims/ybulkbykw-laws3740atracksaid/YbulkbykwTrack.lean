/- '(*Machine).track', the tracker's reset by its contract. -/
import Derived.Test.YbulkbykwReset
import Derived.BigRegion
namespace Go.Proofs.Ybulkbykw
open Go.ChangeShapes Go.WideShapes Go.ChangeAt Go.RowKit
set_option linter.unusedVariables false

def ResetSaid : Prop := ∀ (M : Nat) (w : World) (f : Nat → Value) (n : Nat → Nat) (xs : Nat → List Value) (N : Int), MS M w f n xs → TI f n xs → -2048 ≤ N → N ≤ 2048 →
  Calls Yba.prog 14 #[.pointer (some ⟨M, 17, none⟩), .int .i64 N] w fun e w' => e = .returned (.tuple #[]) ∧ ∃ f' n' xs', Tracked M w w' f n N f' n' xs'

/-- The cells that track empties. -/
def emptied (k : Nat) : Bool := k == 6 || k == 7 || k == 8 || k == 11 || k == 12 || k == 13 || k == 14

/-- What '(*Machine).track(N)' leaves. -/
structure TrackedM (M : Nat) (w w' : World) (f : Nat → Value) (N : Int) (f' : Nat → Value) (n' : Nat → Nat) (xs' : Nat → List Value) : Prop where
  ms : MS M w' f' n' xs'
  bel : Below M w w'
  low : ∀ k, k < 17 → emptied k = false → f' k = f k
  zero : ∀ k, emptied k = true → n' k = 0
  e17 : f' 17 = .int .i64 N
  e18 : f' 18 = .bool (decide (256 < N))
  e24 : f' 24 = .int .i32 (-1)
  ti : TI f' n' xs'
  flat : N ≤ 256 → f' 23 = .int .i32 (-1) ∧ n' 22 = N.toNat
  shared : 256 < N → ∃ d : Nat, f' 23 = .int .i32 d ∧ Stored f' n' xs' N d

/-- In mid-loop: of the queues' cells the first c have been emptied; the rest of M is as it was. -/
structure Mid (M qb k : Nat) (w wr : World) (f : Nat → Value) (n : Nat → Nat) (xs : Nat → List Value) (f' : Nat → Value) (n' : Nat → Nat) (xs' : Nat → List Value) : Prop where
  ms : MS M wr f' n' xs'
  bel : Below M w wr
  q0 : wr.cell? ⟨qb, 0, none⟩ = some (.pointer (some ⟨M, 4, none⟩))
  q1 : wr.cell? ⟨qb, 1, none⟩ = some (.pointer (some ⟨M, 9, none⟩))
  same : ∀ j, emptied j = false → f' j = f j ∧ n' j = n j ∧ xs' j = xs j
  z14 : n' 14 = 0
  za : 1 ≤ k → n' 6 = 0 ∧ n' 7 = 0 ∧ n' 8 = 0
  zb : 2 ≤ k → n' 11 = 0 ∧ n' 12 = 0 ∧ n' 13 = 0

theorem set_far {w : World} {M k qb j : Nat} {v u : Value} (h : w.cell? ⟨qb, j, none⟩ = some u) (hne : qb ≠ M) : (w.setCell ⟨M, k, none⟩ v).cell? ⟨qb, j, none⟩ = some u := by
  rw [World.cell?_setCell_other _ _ _ _ (fun e => hne (congrArg Addr.block e).symm)]; exact h

set_option maxRecDepth 100000 in
set_option maxHeartbeats 2000000 in
theorem track_any (hR : ResetSaid) (M : Nat) (w : World) (f : Nat → Value) (n : Nat → Nat) (xs : Nat → List Value) (N : Int) (h : MS M w f n xs) (ht : TI f n xs) (h2 : f 2 = .pointer (some ⟨M, 4, none⟩)) (h3 : f 3 = .pointer (some ⟨M, 9, none⟩)) (hN : -2048 ≤ N) (hN' : N ≤ 2048) :
    Calls Yba.prog 8 #[.pointer (some ⟨M, 0, none⟩), .int .i64 N] w fun e w' => e = .returned (.tuple #[]) ∧ ∃ f' n' xs', TrackedM M w w' f N f' n' xs' := by
  obtain ⟨a14, k14, e14, l14, m14, _, _⟩ := h.slice (k := 14) rfl
  have c14 := h.cell 14 (by omega)
  rw [e14] at c14
  have c2 := h.cell 2 (by omega)
  rw [h2] at c2
  have c3 := h.cell 3 (by omega)
  rw [h3] at c3
  have fz := h.fro
  have H : Hid (MS M w f n xs) := h
  have HT : Hid (TI f n xs) := ht
  have HC := h.cut0 (k := 14) (by omega) rfl e14
  clear h ht
  go_enter Yba.func8, Yba.ntmps8
  go_wp2
  go_region
  go_wp2
  have HM : Hid (Mid M w.heap.size 0 w ((w.setCell ⟨M, 14, none⟩ (.slice a14 0 k14)).alloc (.cells #[.pointer (some ⟨M, 4, none⟩), .pointer (some ⟨M, 9, none⟩)] 34)).drew f n xs (upd f 14 (.slice a14 0 k14)) (upd n 14 0) (upd xs 14 [])) := by
    have hl := H.out.lt
    refine ⟨(HC.alloc _).drew, (((Below.refl M w).setCell (p := ⟨M, 14, none⟩) (Nat.le_refl _) _).alloc (by simp; omega) _).drew, ?_, ?_, fun j hj => ?_, upd_same _ _ _, fun h => by omega, fun h => by omega⟩
    · show ((w.setCell ⟨M, 14, none⟩ (.slice a14 0 k14)).alloc _).cell? ⟨w.heap.size, 0, none⟩ = _
      rw [World.cell?_alloc_at _ _ _ _ (by simp)]; rfl
    · show ((w.setCell ⟨M, 14, none⟩ (.slice a14 0 k14)).alloc _).cell? ⟨w.heap.size, 1, none⟩ = _
      rw [World.cell?_alloc_at _ _ _ _ (by simp)]; rfl
    · have : j ≠ 14 := fun e => by rw [e] at hj; cases hj
      rw [upd_other _ _ this, upd_other _ _ this, upd_other _ _ this]; exact ⟨rfl, rfl, rfl⟩
  have hqM : M < w.heap.size := H.out.lt
  clear HC c14 c2 c3 fz e14 l14 m14
  go_loopw [24] (fun i wr => ∃ k : Nat, k ≤ 2 ∧ i = .int .i64 k ∧ ∃ f' n' xs', Mid M w.heap.size k w wr f n xs f' n' xs') (fun i _ => 2 - (intOf i).toNat)
  case atStart => exact ⟨0, by omega, rfl, _, _, _, HM.out⟩
  case round =>
    clear HM
    obtain ⟨k, hk, rfl, f1, n1, xs1, m⟩ := hrel
    have fz := m.ms.fro
    rcases (show k = 0 ∨ k = 1 ∨ k = 2 by omega) with rfl | rfl | rfl
    · have q0 := m.q0
      obtain ⟨a6, k6, e6, _, _, _, _⟩ := m.ms.slice (k := 6) rfl
      obtain ⟨a7, k7, e7, _, _, _, _⟩ := m.ms.slice (k := 7) rfl
      obtain ⟨a8, k8, e8, _, _, _, _⟩ := m.ms.slice (k := 8) rfl
      have c6 := m.ms.cell 6 (by omega); rw [e6] at c6
      have c7 := m.ms.cell 7 (by omega); rw [e7] at c7
      have c8 := m.ms.cell 8 (by omega); rw [e8] at c8
      have HN := ((m.ms.cut0 (k := 6) (by omega) rfl e6).cut0 (k := 7) (ao := a7) (cap := k7) (by omega) rfl (by simpa [upd] using e7)).cut0 (k := 8) (ao := a8) (cap := k8) (by omega) rfl (by simpa [upd] using e8)
      have HE : Hid (MS M (((wr.setCell ⟨M, 6, none⟩ (.slice a6 0 k6)).setCell ⟨M, 7, none⟩ (.slice a7 0 k7)).setCell ⟨M, 8, none⟩ (.slice a8 0 k8)) (upd (upd (upd f1 6 (.slice a6 0 k6)) 7 (.slice a7 0 k7)) 8 (.slice a8 0 k8)) (upd (upd (upd n1 6 0) 7 0) 8 0) (upd (upd (upd xs1 6 []) 7 []) 8 [])) := HN
      clear HN e6 e7 e8
      generalize n1 6 = x6 at *
      generalize n1 7 = x7 at *
      generalize n1 8 = x8 at *
      go_wp2
      go_big_region
      go_wp2
      go_roundw
      case rel =>
        refine ⟨1, by omega, by go_num, _, _, _, HE.out.drew, ?_, set_far (set_far (set_far m.q0 (by omega)) (by omega)) (by omega), set_far (set_far (set_far m.q1 (by omega)) (by omega)) (by omega), fun j hj => ?_, ?_, fun _ => ⟨by simp [upd], by simp [upd], by simp [upd]⟩, fun h => by omega⟩
        · exact (((m.bel.setCell (p := ⟨M, 6, none⟩) (Nat.le_refl _) _).setCell (p := ⟨M, 7, none⟩) (Nat.le_refl _) _).setCell (p := ⟨M, 8, none⟩) (Nat.le_refl _) _).drew
        · have h6 : j ≠ 6 := fun e => by rw [e] at hj; cases hj
          have h7 : j ≠ 7 := fun e => by rw [e] at hj; cases hj
          have h8 : j ≠ 8 := fun e => by rw [e] at hj; cases hj
          simpa [upd, h6, h7, h8] using m.same j hj
        · simpa [upd] using m.z14
      case measure => simp [intOf]
    · have q1 := m.q1
      obtain ⟨a6, k6, e6, _, _, _, _⟩ := m.ms.slice (k := 11) rfl
      obtain ⟨a7, k7, e7, _, _, _, _⟩ := m.ms.slice (k := 12) rfl
      obtain ⟨a8, k8, e8, _, _, _, _⟩ := m.ms.slice (k := 13) rfl
      have c6 := m.ms.cell 11 (by omega); rw [e6] at c6
      have c7 := m.ms.cell 12 (by omega); rw [e7] at c7
      have c8 := m.ms.cell 13 (by omega); rw [e8] at c8
      have HN := ((m.ms.cut0 (k := 11) (by omega) rfl e6).cut0 (k := 12) (ao := a7) (cap := k7) (by omega) rfl (by simpa [upd] using e7)).cut0 (k := 13) (ao := a8) (cap := k8) (by omega) rfl (by simpa [upd] using e8)
      have HE : Hid (MS M (((wr.setCell ⟨M, 11, none⟩ (.slice a6 0 k6)).setCell ⟨M, 12, none⟩ (.slice a7 0 k7)).setCell ⟨M, 13, none⟩ (.slice a8 0 k8)) (upd (upd (upd f1 11 (.slice a6 0 k6)) 12 (.slice a7 0 k7)) 13 (.slice a8 0 k8)) (upd (upd (upd n1 11 0) 12 0) 13 0) (upd (upd (upd xs1 11 []) 12 []) 13 [])) := HN
      clear HN e6 e7 e8
      generalize n1 11 = x6 at *
      generalize n1 12 = x7 at *
      generalize n1 13 = x8 at *
      go_wp2
      go_big_region
      go_wp2
      go_roundw
      case rel =>
        refine ⟨2, by omega, by go_num, _, _, _, HE.out.drew, ?_, set_far (set_far (set_far m.q0 (by omega)) (by omega)) (by omega), set_far (set_far (set_far m.q1 (by omega)) (by omega)) (by omega), fun j hj => ?_, ?_, fun h => ?_, fun _ => ⟨by simp [upd], by simp [upd], by simp [upd]⟩⟩
        · exact (((m.bel.setCell (p := ⟨M, 11, none⟩) (Nat.le_refl _) _).setCell (p := ⟨M, 12, none⟩) (Nat.le_refl _) _).setCell (p := ⟨M, 13, none⟩) (Nat.le_refl _) _).drew
        · have h6 : j ≠ 11 := fun e => by rw [e] at hj; cases hj
          have h7 : j ≠ 12 := fun e => by rw [e] at hj; cases hj
          have h8 : j ≠ 13 := fun e => by rw [e] at hj; cases hj
          simpa [upd, h6, h7, h8] using m.same j hj
        · simpa [upd] using m.z14
        · simpa [upd] using m.za (by omega)
      case measure => simp [intOf]
    · have t := HT.out
      have s := m.same
      have T1 : TI f1 n1 xs1 := ⟨by rw [(s 31 rfl).1]; exact t.e31, by rw [(s 34 rfl).1]; exact t.e34, by rw [(s 35 rfl).1]; exact t.e35, by rw [(s 22 rfl).2.2, (s 22 rfl).2.1]; exact t.u22, by rw [(s 22 rfl).2.1]; exact t.b22⟩
      have HC : Hid (Calls Yba.prog 14 #[.pointer (some ⟨M, 17, none⟩), .int .i64 N] wr fun e w' => e = .returned (.tuple #[]) ∧ ∃ f' n' xs', Tracked M wr w' f1 n1 N f' n' xs') := hR M wr f1 n1 xs1 N m.ms T1 hN hN'
      clear t s T1
      go_wp2_with fail
      refine HC.out.mono ?_
      rintro e w2 ⟨rfl, f2, n2, xs2, T⟩
      clear HC
      go_wp2
      go_returns
      refine ⟨rfl, f2, n2, xs2, T.ms, m.bel.trans T.bel, fun j hj he => (T.low j hj).1.trans (m.same j he).1, fun j hj => ?_, T.e17, T.e18, T.e24, T.ti, T.flat, T.shared⟩
      have za := m.za (by omega)
      have zb := m.zb (by omega)
      have z14 := m.z14
      have hj' : j = 6 ∨ j = 7 ∨ j = 8 ∨ j = 11 ∨ j = 12 ∨ j = 13 ∨ j = 14 := by simp [emptied] at hj; omega
      rw [(T.low j (by omega)).2]
      rcases hj' with rfl | rfl | rfl | rfl | rfl | rfl | rfl
      · exact za.1
      · exact za.2.1
      · exact za.2.2
      · exact zb.1
      · exact zb.2.1
      · exact zb.2.2
      · exact z14
end Go.Proofs.Ybulkbykw

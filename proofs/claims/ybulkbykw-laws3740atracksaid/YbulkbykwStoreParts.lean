/- '(*slotStore).reset(N)', 256 < N <= 2048. -/
import Derived.Test.YbulkbykwStoreHead
import Derived.Deep.DeepCutAuto
import Derived.Deep.LoopGhost
namespace Go.Proofs.Ybulkbykw
open Go.ChangeShapes Go.WideShapes Go.ChangeAt Go.RowKit
set_option linter.unusedVariables false

/-- The store with L nodes. -/
structure RS (M : Nat) (w wr : World) (f : Nat → Value) (n : Nat → Nat) (xs : Nat → List Value) (N : Int) (d : Nat) (top : Int) (L : Nat) (f' : Nat → Value) (n' : Nat → Nat) (xs' : Nat → List Value) : Prop where
  ms : MS M wr f' n' xs'
  bel : Below M w wr
  same : ∀ j, j < 25 → f' j = f j ∧ n' j = n j ∧ xs' j = xs j
  e25 : f' 25 = .int .i64 N
  e26 : f' 26 = .int .i64 d
  e27 : f' 27 = .int .i64 8
  e28 : f' 28 = .int .i64 top
  e31 : f' 31 = .slice none 0 0
  e34 : f' 34 = .slice none 0 0
  e35 : f' 35 = .slice none 0 0
  n29 : n' 29 = 8 * L
  n30 : n' 30 = L
  n32 : n' 32 = L
  ints : ∀ j, j < L → ∃ q, (xs' 30)[j]? = some (.int .i32 q)

section
variable {M : Nat} {w wr wx : World} {f : Nat → Value} {n : Nat → Nat} {xs : Nat → List Value} {N : Int} {d L : Nat} {top : Int} {f' : Nat → Value} {n' : Nat → Nat} {xs' : Nat → List Value}

theorem rs_if2 {f1 : Nat → Value} {n1 : Nat → Nat} {xs1 : Nat → List Value} (h : Hd M w wx f n xs N f1 n1 xs1) (v1 : Value) (d : Nat) (top : Int) :
    ∃ f' n' xs', RS M w ((((wx.setCell ⟨M, 27, none⟩ (.int .i64 8)).setCell ⟨M, 26, none⟩ v1).setCell ⟨M, 26, none⟩ (.int .i64 d)).setCell ⟨M, 28, none⟩ (.int .i64 top)) f n xs N d top 0 f' n' xs' := by
  have F := ((((h.ms.set (k := 27) (by omega) rfl (.int .i64 8)).set (k := 26) (by omega) rfl v1).set (k := 26) (by omega) rfl (.int .i64 d)).set (k := 28) (by omega) rfl (.int .i64 top))
  refine ⟨_, _, _, F, (((h.bel.setCell (p := ⟨M, 27, none⟩) (Nat.le_refl _) _).setCell (p := ⟨M, 26, none⟩) (Nat.le_refl _) _).setCell (p := ⟨M, 26, none⟩) (Nat.le_refl _) _).setCell (p := ⟨M, 28, none⟩) (Nat.le_refl _) _, fun j hj => ?_, by simp [upd, h.e25], by simp [upd], by simp [upd], by simp [upd], by simp [upd, h.e31], by simp [upd, h.e34], by simp [upd, h.e35], h.z29, h.z30, h.z32, fun j hj => by omega⟩
  rw [upd_other _ _ (by omega), upd_other _ _ (by omega), upd_other _ _ (by omega), upd_other _ _ (by omega)]
  exact h.same j hj

theorem rs_if3 {f1 : Nat → Value} {n1 : Nat → Nat} {xs1 : Nat → List Value} (h : Hd M w wx f n xs N f1 n1 xs1) (v1 v2 : Value) (d : Nat) (top : Int) :
    ∃ f' n' xs', RS M w (((((wx.setCell ⟨M, 27, none⟩ (.int .i64 8)).setCell ⟨M, 26, none⟩ v1).setCell ⟨M, 26, none⟩ v2).setCell ⟨M, 26, none⟩ (.int .i64 d)).setCell ⟨M, 28, none⟩ (.int .i64 top)) f n xs N d top 0 f' n' xs' := by
  have F := (((((h.ms.set (k := 27) (by omega) rfl (.int .i64 8)).set (k := 26) (by omega) rfl v1).set (k := 26) (by omega) rfl v2).set (k := 26) (by omega) rfl (.int .i64 d)).set (k := 28) (by omega) rfl (.int .i64 top))
  refine ⟨_, _, _, F, ((((h.bel.setCell (p := ⟨M, 27, none⟩) (Nat.le_refl _) _).setCell (p := ⟨M, 26, none⟩) (Nat.le_refl _) _).setCell (p := ⟨M, 26, none⟩) (Nat.le_refl _) _).setCell (p := ⟨M, 26, none⟩) (Nat.le_refl _) _).setCell (p := ⟨M, 28, none⟩) (Nat.le_refl _) _, fun j hj => ?_, by simp [upd, h.e25], by simp [upd], by simp [upd], by simp [upd], by simp [upd, h.e31], by simp [upd, h.e34], by simp [upd, h.e35], h.z29, h.z30, h.z32, fun j hj => by omega⟩
  rw [upd_other _ _ (by omega), upd_other _ _ (by omega), upd_other _ _ (by omega), upd_other _ _ (by omega), upd_other _ _ (by omega)]
  exact h.same j hj

theorem MS.slice_pos (h : MS M w f n xs) {k : Nat} (hr : isRow k = true) (hp : 0 < n k) : ∃ g cap, f k = .slice (some ⟨g, 0, none⟩) (n k) cap ∧ n k ≤ cap ∧ cap ≤ maxLen := by
  rcases (h.rows k hr).2 with ⟨h1, h2⟩ | ⟨g, cap, cur, hv, _, _, h3, h4, _⟩
  · omega
  · exact ⟨g, cap, hv, h3, h4⟩

theorem MS.len (h : MS M w f n xs) {k : Nat} (hr : isRow k = true) : (xs k).length = n k * esz k := (h.rows k hr).1

/-- One node more. -/
theorem RS.alloced {wr2 : World} {f2 : Nat → Value} {n2 : Nat → Nat} {xs2 : Nat → List Value} (R : RS M w wr f n xs N d top L f' n' xs') (A : Alloced M wr wr2 f' n' xs' f2 n2 xs2) : RS M w wr2 f n xs N d top (L + 1) f2 n2 xs2 := by
  have g := A.same
  refine ⟨A.ms, R.bel.trans A.bel, fun j hj => ?_, ?_, ?_, ?_, ?_, ?_, ?_, ?_, ?_, ?_, ?_, fun j hj => ?_⟩
  · have x := g j (by omega) (by omega) (by omega); have y := R.same j hj
    exact ⟨x.1.trans y.1, x.2.1.trans y.2.1, x.2.2.trans y.2.2⟩
  · rw [(g 25 (by omega) (by omega) (by omega)).1]; exact R.e25
  · rw [(g 26 (by omega) (by omega) (by omega)).1]; exact R.e26
  · rw [(g 27 (by omega) (by omega) (by omega)).1]; exact R.e27
  · rw [(g 28 (by omega) (by omega) (by omega)).1]; exact R.e28
  · rw [(g 31 (by omega) (by omega) (by omega)).1]; exact R.e31
  · rw [(g 34 (by omega) (by omega) (by omega)).1]; exact R.e34
  · rw [(g 35 (by omega) (by omega) (by omega)).1]; exact R.e35
  · rw [A.data, R.n29]; omega
  · rw [A.refs, R.n30]
  · rw [A.born, R.n32]
  · rw [A.rcells]
    have hl : (xs' 30).length = L := by rw [R.ms.len rfl, R.n30]; show L * 1 = L; omega
    by_cases e : j < L
    · rw [List.getElem?_append_left (by omega)]; exact R.ints j e
    · obtain rfl : j = L := by omega
      exact ⟨1, by rw [List.getElem?_append_right (by omega)]; simp [hl]⟩

/-- The old entries stay. -/
theorem Alloced.entry {wr2 : World} {f2 : Nat → Value} {n2 : Nat → Nat} {xs2 : Nat → List Value} (A : Alloced M wr wr2 f' n' xs' f2 n2 xs2) {j : Nat} (hj : j < n' 29) : (xs2 29)[j]? = (xs' 29)[j]? := by
  rw [← A.old, List.getElem?_take, if_pos hj]

/-- A store into the data. -/
theorem RS.data (R : RS M w wr f n xs N d top L f' n' xs') {g cap : Nat} (e29 : f' 29 = .slice (some ⟨g, 0, none⟩) (n' 29) cap) (j : Nat) (v : Value) : RS M w (wr.setCell ⟨g, j, none⟩ v) f n xs N d top L f' n' (upd xs' 29 ((xs' 29).set j v)) := by
  have hg := R.ms.row_lt (k := 29) rfl (show (f' 29).ownBlock = some g by rw [e29]; rfl)
  refine ⟨R.ms.store rfl e29 j v, R.bel.setCell (by simp; omega) _, fun i hi => ?_, R.e25, R.e26, R.e27, R.e28, R.e31, R.e34, R.e35, R.n29, R.n30, R.n32, fun i hi => ?_⟩
  · rw [upd_other _ _ (by omega)]; exact R.same i hi
  · rw [upd_other _ _ (by omega)]; exact R.ints i hi

/-- A store into the counts. -/
theorem RS.count (R : RS M w wr f n xs N d top L f' n' xs') {g cap : Nat} (e30 : f' 30 = .slice (some ⟨g, 0, none⟩) (n' 30) cap) (j : Nat) (q : Int) : RS M w (wr.setCell ⟨g, j, none⟩ (.int .i32 q)) f n xs N d top L f' n' (upd xs' 30 ((xs' 30).set j (.int .i32 q))) := by
  have hg := R.ms.row_lt (k := 30) rfl (show (f' 30).ownBlock = some g by rw [e30]; rfl)
  refine ⟨R.ms.store rfl e30 j _, R.bel.setCell (by simp; omega) _, fun i hi => ?_, R.e25, R.e26, R.e27, R.e28, R.e31, R.e34, R.e35, R.n29, R.n30, R.n32, fun i hi => ?_⟩
  · rw [upd_other _ _ (by omega)]; exact R.same i hi
  · rw [upd_same]
    obtain ⟨p, hp⟩ := R.ints i hi
    by_cases e : j = i
    · subst e
      exact ⟨q, by rw [List.getElem?_set_self (List.getElem?_eq_some_iff.1 hp).1]⟩
    · exact ⟨p, by rw [List.getElem?_set_ne e]; exact hp⟩

theorem RS.draw (R : RS M w wr f n xs N d top L f' n' xs') : RS M w wr.drew f n xs N d top L f' n' xs' :=
  ⟨R.ms.drew, R.bel.drew, R.same, R.e25, R.e26, R.e27, R.e28, R.e31, R.e34, R.e35, R.n29, R.n30, R.n32, R.ints⟩

/-- The data's cell number j, as the walk asks for it. -/
theorem RS.slot (R : RS M w wr f n xs N d top L f' n' xs') {g cap : Nat} (e29 : f' 29 = .slice (some ⟨g, 0, none⟩) (n' 29) cap) {j : Nat} (hj : j < 8 * L) : (∃ v, wr.cell? ⟨g, j, none⟩ = some v) ∧ wr.frozen? ⟨g, j, none⟩ = false := by
  have ho := R.ms.rows 29 rfl
  rw [e29] at ho
  have hj' : j < n' 29 * esz 29 := by rw [R.n29]; show j < 8 * L * 1; omega
  refine ⟨?_, ho.frozenAt j⟩
  have hl := R.ms.len (k := 29) rfl
  exact ⟨(xs' 29)[j]'(by rw [hl]; exact hj'), by rw [ho.cellAt j hj', List.getElem?_eq_getElem]⟩

/-- The count of node j. -/
theorem RS.ref (R : RS M w wr f n xs N d top L f' n' xs') {g cap : Nat} (e30 : f' 30 = .slice (some ⟨g, 0, none⟩) (n' 30) cap) {j : Nat} (hj : j < L) : (∃ q, wr.cell? ⟨g, j, none⟩ = some (.int .i32 q)) ∧ wr.frozen? ⟨g, j, none⟩ = false := by
  have ho := R.ms.rows 30 rfl
  rw [e30] at ho
  have hj' : j < n' 30 * esz 30 := by rw [R.n30]; show j < L * 1; omega
  refine ⟨?_, ho.frozenAt j⟩
  obtain ⟨q, hq⟩ := R.ints j hj
  exact ⟨q, by rw [ho.cellAt j hj']; exact hq⟩
end

end Go.Proofs.Ybulkbykw

/- 'LawS3740BSetUndo': what its walk carries. -/
import Derived.Test.YbulkbykwSet
import Derived.Test.YbulkbykwSharedParts
namespace Go.Proofs.Ybulkbykw
open Go.ChangeShapes Go.WideShapes Go.ChangeAt Go.RowKit
set_option linter.unusedVariables false

theorem own_row {w : World} {base g n cap : Nat} {xs : List Int} (h : w.ownsRow base 3 1 (.slice (some ⟨g, 0, none⟩) n cap) n (xs.map (Value.int .i64))) (hl : xs.length = n) (j : Nat) (hj : j < n) :
    w.cell? ⟨g, j, none⟩ = some (.int .i64 (xs.getD j 0)) := by
  rw [h.cellAt j (by omega)]
  simp [List.getD, List.getElem?_eq_getElem (show j < xs.length by omega)]

/-- The flat half: the two rows read alike. -/
structure U1 (w wr : World) (g2 n : Nat) (xs : List Int) : Prop where
  orig : ∀ j, j < n → wr.cell? ⟨w.heap.size, j, none⟩ = some (.int .i64 (xs.getD j 0))
  cp : ∀ j, j < n → wr.cell? ⟨g2, j, none⟩ = some (.int .i64 (xs.getD j 0))
  bel : Below w.heap.size w wr

theorem U1.draws {w wr : World} {g2 n : Nat} {xs : List Int} (h : U1 w wr g2 n xs) (k : Nat) : U1 w (wr.drewN k) g2 n xs :=
  ⟨h.orig, h.cp, ⟨h.bel.os, h.bel.tape, h.bel.output, h.bel.size, h.bel.block⟩⟩

theorem cell_alloc {w : World} {a : Addr} {v : Value} (h : w.cell? a = some v) (o : Obj) : (w.alloc o).cell? a = some v := by
  rw [World.cell?_alloc_lt _ _ _ (World.block_lt_of_cell? w _ h)]; exact h
theorem U1.alloc {w wr : World} {g2 n : Nat} {xs : List Int} (h : U1 w wr g2 n xs) (o : Obj) : U1 w (wr.alloc o) g2 n xs :=
  ⟨fun j hj => cell_alloc (h.orig j hj) o, fun j hj => cell_alloc (h.cp j hj) o, h.bel.alloc h.bel.size o⟩

theorem u1_mk {w wx : World} {g2 n k : Nat} {xs : List Int} (p : Value) (F : U1 w wx g2 n xs) (hn : w.heap.size < g2) (hk : k < n) :
    U1 w ((wx.setCell ⟨g2, k, none⟩ p).setCell ⟨g2, k, none⟩ (.int .i64 (xs.getD k 0))) g2 n xs := by
  refine ⟨fun j hj => ?_, fun j hj => ?_, (F.bel.setCell (p := ⟨g2, k, none⟩) (Nat.le_of_lt hn) _).setCell (p := ⟨g2, k, none⟩) (Nat.le_of_lt hn) _⟩
  · rw [World.cell?_setCell_other _ _ _ _ (fun h => by have := congrArg Addr.block h; simp at this; omega), World.cell?_setCell_other _ _ _ _ (fun h => by have := congrArg Addr.block h; simp at this; omega)]
    exact F.orig j hj
  · by_cases hjk : j = k
    · subst hjk
      exact World.cell?_setCell_same _ _ _ (World.cell?_setCell_same _ _ _ (F.cp j hj))
    · rw [World.cell?_setCell_other _ _ _ _ (fun h => hjk (congrArg Addr.off h).symm), World.cell?_setCell_other _ _ _ _ (fun h => hjk (congrArg Addr.off h).symm)]
      exact F.cp j hj

/-- The shared half: the Saves as they were, the copy beside them; nothing undone. -/
structure U2 (w v wr : World) (n cap gr tb : Nat) (ts : List (Int × Int × Int)) : Prop where
  c3 : wr.cell? ⟨tb, 3, none⟩ = some (.slice (some ⟨v.heap.size, 0, none⟩) n cap)
  c4 : wr.cell? ⟨tb, 4, none⟩ = some (.slice none 0 0)
  ns : ∀ j, j < n → wr.cell? ⟨v.heap.size, j * 3, none⟩ = some (.int .i64 (ts.getD j (0, 0, 0)).1) ∧ wr.cell? ⟨v.heap.size, j * 3 + 1, none⟩ = some (.int .i64 (ts.getD j (0, 0, 0)).2.1) ∧ wr.cell? ⟨v.heap.size, j * 3 + 2, none⟩ = some (.int .i32 (ts.getD j (0, 0, 0)).2.2)
  ref : ∀ j, j < n → wr.cell? ⟨gr, j * 3, none⟩ = some (.int .i64 (ts.getD j (0, 0, 0)).1) ∧ wr.cell? ⟨gr, j * 3 + 1, none⟩ = some (.int .i64 (ts.getD j (0, 0, 0)).2.1) ∧ wr.cell? ⟨gr, j * 3 + 2, none⟩ = some (.int .i32 (ts.getD j (0, 0, 0)).2.2)
  bel : Below w.heap.size w wr

theorem U2.draws {w v wr : World} {n cap gr tb : Nat} {ts : List (Int × Int × Int)} (h : U2 w v wr n cap gr tb ts) (k : Nat) : U2 w v (wr.drewN k) n cap gr tb ts :=
  ⟨h.c3, h.c4, h.ns, h.ref, ⟨h.bel.os, h.bel.tape, h.bel.output, h.bel.size, h.bel.block⟩⟩

/-- 'set' has noted one Save more (w1), the tracker's field has been written twice. -/
theorem u2_mk {w v wx w1 : World} {n cap gr : Nat} {ts : List (Int × Int × Int)} {i e : Int} {cs : Array Value} {o : Obj} {x : Value} (hB : Below w.heap.size w v) (hts : ts.length = n)
    (S : S1 v wx n cap gr ts) (h4 : cs[4]? = some (.slice none 0 0)) (h3' : cs[3]? = some x)
    (h1 : w1.ownsRow v.heap.size 66 3 (.slice (some ⟨v.heap.size, 0, none⟩) (n + 1) cap) (n + 1) (tcs (ts ++ [(i, e, -1)])))
    (hg : ((wx.alloc (.cells cs 52)).alloc o).grownBy w1 (some v.heap.size)) (y : Value) :
    U2 w v ((w1.setCell ⟨wx.heap.size, 3, none⟩ y).setCell ⟨wx.heap.size, 3, none⟩ (.slice (some ⟨v.heap.size, 0, none⟩) n cap)) n cap gr wx.heap.size ts := by
  have l1 := S.lt
  have h3 : (wx.alloc (.cells cs 52)).cell? ⟨wx.heap.size, 3, none⟩ = some x := by rw [World.cell?_alloc_new]; exact h3'
  have hs := S.bel.size
  have hblk : ∀ k, k < wx.heap.size + 1 → k ≠ v.heap.size → w1.heap[k]? = (wx.alloc (.cells cs 52)).heap[k]? := fun k hk hne =>
    (hg.block k (by simp; omega) (by simpa using hne)).trans (Below.heap_alloc _ o k (by simp; omega))
  have hfar : ∀ (a : Addr), a.block ≠ wx.heap.size → ((w1.setCell ⟨wx.heap.size, 3, none⟩ y).setCell ⟨wx.heap.size, 3, none⟩ (.slice (some ⟨v.heap.size, 0, none⟩) n cap)).cell? a = w1.cell? a := fun a ha => by
    rw [World.cell?_setCell_other _ _ _ _ (fun h => ha (congrArg Addr.block h).symm), World.cell?_setCell_other _ _ _ _ (fun h => ha (congrArg Addr.block h).symm)]
  have c3 : w1.cell? ⟨wx.heap.size, 3, none⟩ = some x := (World.cell?_of_block (a := ⟨wx.heap.size, 3, none⟩) (hblk _ (by simp) (by simp; omega))).trans h3
  have c4 : w1.cell? ⟨wx.heap.size, 4, none⟩ = some (.slice none 0 0) := by
    rw [World.cell?_of_block (a := ⟨wx.heap.size, 4, none⟩) (hblk _ (by simp) (by simp; omega)), World.cell?_alloc_new]; exact h4
  have hw := hB.size
  refine ⟨World.cell?_setCell_same _ _ _ (World.cell?_setCell_same _ _ _ c3), ?_, fun j hj => ?_, fun j hj => ?_, ?_⟩
  · rw [World.cell?_setCell_other _ _ _ _ (by simp), World.cell?_setCell_other _ _ _ _ (by simp)]; exact c4
  · rw [hfar _ (by simp; omega), hfar _ (by simp; omega), hfar _ (by simp; omega)]
    have := own_tcs h1 (by simp; omega) j (by omega)
    have e : (ts ++ [(i, e, -1)]).getD j (0, 0, 0) = ts.getD j (0, 0, 0) := by
      simp [List.getD, List.getElem?_append_left (show j < ts.length by omega)]
    rwa [e] at this
  · rw [hfar _ (by simp; omega), hfar _ (by simp; omega), hfar _ (by simp; omega)]
    have hc : ∀ q, w1.cell? ⟨gr, q, none⟩ = wx.cell? ⟨gr, q, none⟩ := fun q => (World.cell?_of_block (a := ⟨gr, q, none⟩) (hblk gr (by omega) (by omega))).trans (World.cell?_alloc_lt _ _ _ (by simp; omega))
    rw [hc, hc, hc]
    exact own_tcs S.ref hts j hj
  · refine hB.trans ((?_ : Below w.heap.size v w1).setCell (by simp; omega) _ |>.setCell (by simp; omega) _)
    have b2 : Below w.heap.size v (wx.alloc (.cells cs 52)) := (S.bel.mono hw).alloc (by omega) _
    exact (b2.alloc (by simp; omega) o).grown hg (by simp; omega) (fun k hk => by cases hk; omega)
/-- Behind 'set': what 'restore' asks. -/
theorem u2_pre {v wx w1 : World} {n cap gr : Nat} {ts : List (Int × Int × Int)} {i e : Int} {cs : Array Value} {o : Obj} {x : Value} (hts : ts.length = n)
    (S : S1 v wx n cap gr ts) (h3' : cs[3]? = some x)
    (h1 : w1.ownsRow v.heap.size 66 3 (.slice (some ⟨v.heap.size, 0, none⟩) (n + 1) cap) (n + 1) (tcs (ts ++ [(i, e, -1)])))
    (hg : ((wx.alloc (.cells cs 52)).alloc o).grownBy w1 (some v.heap.size)) (y : Value) :
    (w1.setCell ⟨wx.heap.size, 3, none⟩ y).cell? ⟨wx.heap.size, 3, none⟩ = some y ∧ (w1.setCell ⟨wx.heap.size, 3, none⟩ y).frozen? ⟨wx.heap.size, 3, none⟩ = false ∧ (w1.setCell ⟨wx.heap.size, 3, none⟩ y).cell? ⟨v.heap.size, n * 3 + 2, none⟩ = some (.int .i32 (-1)) := by
  have l1 := S.lt
  have h3 : (wx.alloc (.cells cs 52)).cell? ⟨wx.heap.size, 3, none⟩ = some x := by rw [World.cell?_alloc_new]; exact h3'
  have hb : w1.heap[wx.heap.size]? = (wx.alloc (.cells cs 52)).heap[wx.heap.size]? := (hg.block wx.heap.size (by simp; omega) (by simp; omega)).trans (Below.heap_alloc _ o _ (by simp))
  refine ⟨World.cell?_setCell_same _ _ _ ((World.cell?_of_block (a := ⟨wx.heap.size, 3, none⟩) hb).trans h3), ?_, ?_⟩
  · rw [World.frozen?_setCell, World.frozen?_of_block (a := ⟨wx.heap.size, 3, none⟩) hb, World.frozen?_alloc_new]
  · rw [World.cell?_setCell_other _ _ _ _ (fun h => by have := congrArg Addr.block h; simp at this; omega), (own_tcs h1 (by simp; omega) n (by omega)).2.2]
    simp [List.getD, ← hts]
end Go.Proofs.Ybulkbykw

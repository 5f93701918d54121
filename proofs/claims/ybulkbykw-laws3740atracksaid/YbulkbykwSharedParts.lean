/- 'LawS3740BShared': what its walk carries from statement to statement, told of worlds that are letters. -/
import Derived.Test.YbulkbykwNoted
import Derived.Test.YbulkbykwRestore2
import Derived.Deep.Draws
namespace Go.Proofs.Ybulkbykw
open Go.ChangeShapes Go.WideShapes Go.ChangeAt Go.RowKit
set_option linter.unusedVariables false

/-- An element of a row that came in: its place, and what each cell holds. -/
theorem row_at {k : IntKind} {w : World} {a : Option Addr} {len cap : Nat} {zs : List Int} (h : IsRow k w a len cap zs) {i : Nat} (hi : i < len) :
    ∃ b off, a = some ⟨b, off, none⟩ ∧ b < w.heap.size ∧ ∀ j, j < len → w.cell? ⟨b, off + j, none⟩ = some (.int k ((zs.take len).getD j 0)) := by
  rcases h with ⟨_, h1, _⟩ | ⟨x, rfl, h2, h3, h4, h5, _⟩
  · omega
  obtain ⟨b, off, rfl, hc⟩ := ints_at h5 (by omega)
  refine ⟨b, off, rfl, World.block_lt_of_cell? w ⟨b, off + i, none⟩ (hc i (by omega)), fun j hj => ?_⟩
  rw [hc j (by omega)]
  simp [List.getD, hj]

theorem take_snoc (us : List Int) (k : Nat) (kd : IntKind) (h : k < us.length) : (us.take k).map (Value.int kd) ++ [.int kd (us.getD k 0)] = (us.take (k + 1)).map (Value.int kd) := by
  rw [List.take_succ_eq_append_getElem h, List.map_append]
  simp only [List.getD, List.getElem?_eq_getElem h, Option.getD_some, List.map_cons, List.map_nil]

/-- The noted Saves and their copy lie there; nothing old has turned. -/
structure S1 (w wr : World) (n cap gr : Nat) (ts : List (Int × Int × Int)) : Prop where
  ns : wr.ownsRow w.heap.size 66 3 (.slice (some ⟨w.heap.size, 0, none⟩) n cap) n (tcs ts)
  ref : wr.ownsRow (w.heap.size + 1) 66 3 (.slice (some ⟨gr, 0, none⟩) n n) n (tcs ts)
  bel : Below w.heap.size w wr

section
variable {w wr wr' : World} {n cap gr : Nat} {ts : List (Int × Int × Int)}
theorem S1.lt (h : S1 w wr n cap gr ts) : w.heap.size < gr ∧ gr < wr.heap.size := by
  have := h.ref.lt gr rfl
  omega
theorem S1.grown (h : S1 w wr n cap gr ts) {row : Option Nat} (hg : wr.grownBy wr' row) (hr : ∀ k, row = some k → w.heap.size < k ∧ k ≠ gr) : S1 w wr' n cap gr ts :=
  ⟨h.ns.kept hg (.inr (fun e => by have := hr w.heap.size e.symm; omega)), h.ref.kept hg (.inr (fun e => by have := hr gr e.symm; omega)), h.bel.grown hg h.bel.size (fun k hk => by have := hr k hk; omega)⟩
theorem S1.alloc (h : S1 w wr n cap gr ts) (o : Obj) : S1 w (wr.alloc o) n cap gr ts := h.grown (World.grownBy_alloc wr o none) (fun k hk => by cases hk)
theorem S1.drew (h : S1 w wr n cap gr ts) : S1 w wr.drew n cap gr ts := ⟨h.ns.drew, h.ref.drew, h.bel.drew⟩
end

/-- A row of versions. -/
def Vers (w : World) (base g : Nat) (us : List Int) (cap : Nat) : Prop := w.ownsRow base 44 1 (.slice (some ⟨g, 0, none⟩) us.length cap) us.length (us.map (Value.int .i32))

section
variable {w w' : World} {base g cap : Nat} {us : List Int}
theorem Vers.lt (h : Vers w base g us cap) : base ≤ g ∧ g < w.heap.size := World.ownsRow.lt h g rfl
theorem Vers.grown (h : Vers w base g us cap) {row : Option Nat} (hg : w.grownBy w' row) (hr : row ≠ some g) : Vers w' base g us cap := World.ownsRow.kept h hg (.inr (fun e => hr e.symm))
theorem Vers.alloc (h : Vers w base g us cap) (o : Obj) : Vers (w.alloc o) base g us cap := World.ownsRow.alloc h o
theorem Vers.cell (h : Vers w base g us cap) (j : Nat) (hj : j < us.length) : w.cell? ⟨g, j, none⟩ = some (.int .i32 (us.getD j 0)) := by
  rw [World.ownsRow.cellAt h j (by omega)]
  simp [List.getD, List.getElem?_eq_getElem hj]
end

/-- All four rows. -/
structure S2 (w wr : World) (n cap gr : Nat) (ts : List (Int × Int × Int)) (gu gw capu : Nat) (us ws : List Int) : Prop where
  s1 : S1 w wr n cap gr ts
  u : Vers wr (gr + 1) gu us capu
  want : Vers wr (gu + 1) gw ws capu

theorem S2.alloc {w wr : World} {n cap gr : Nat} {ts : List (Int × Int × Int)} {gu gw capu : Nat} {us ws : List Int} (h : S2 w wr n cap gr ts gu gw capu us ws) (o : Obj) : S2 w (wr.alloc o) n cap gr ts gu gw capu us ws :=
  ⟨h.s1.alloc o, h.u.alloc o, h.want.alloc o⟩

/-- The three cells of a Save out of an owned row. -/
theorem own_tcs {w : World} {base g n cap : Nat} {ts : List (Int × Int × Int)} (h : w.ownsRow base 66 3 (.slice (some ⟨g, 0, none⟩) n cap) n (tcs ts)) (hl : ts.length = n) (j : Nat) (hj : j < n) :
    w.cell? ⟨g, j * 3, none⟩ = some (.int .i64 (ts.getD j (0, 0, 0)).1) ∧ w.cell? ⟨g, j * 3 + 1, none⟩ = some (.int .i64 (ts.getD j (0, 0, 0)).2.1) ∧ w.cell? ⟨g, j * 3 + 2, none⟩ = some (.int .i32 (ts.getD j (0, 0, 0)).2.2) := by
  obtain ⟨h0, h1, h2⟩ := tcs_get ts j (by omega)
  rw [h.cellAt (j * 3) (by omega), h.cellAt (j * 3 + 1) (by omega), h.cellAt (j * 3 + 2) (by omega)]
  exact ⟨h0, h1, h2⟩

/-- What the two comparing loops read. -/
structure S3 (w wr : World) (m cap gr tb : Nat) (ts : List (Int × Int × Int)) (gu gw capu : Nat) (ws : List Int) : Prop where
  c3 : wr.cell? ⟨tb, 3, none⟩ = some (.slice (some ⟨w.heap.size, 0, none⟩) m cap)
  c4 : wr.cell? ⟨tb, 4, none⟩ = some (.slice (some ⟨gu, 0, none⟩) ws.length capu)
  ns : ∀ j, j < m + 1 → wr.cell? ⟨w.heap.size, j * 3, none⟩ = some (.int .i64 (ts.getD j (0, 0, 0)).1) ∧ wr.cell? ⟨w.heap.size, j * 3 + 1, none⟩ = some (.int .i64 (ts.getD j (0, 0, 0)).2.1) ∧ wr.cell? ⟨w.heap.size, j * 3 + 2, none⟩ = some (.int .i32 (ts.getD j (0, 0, 0)).2.2)
  ref : ∀ j, j < m + 1 → wr.cell? ⟨gr, j * 3, none⟩ = some (.int .i64 (ts.getD j (0, 0, 0)).1) ∧ wr.cell? ⟨gr, j * 3 + 1, none⟩ = some (.int .i64 (ts.getD j (0, 0, 0)).2.1) ∧ wr.cell? ⟨gr, j * 3 + 2, none⟩ = some (.int .i32 (ts.getD j (0, 0, 0)).2.2)
  u : ∀ j, j < ws.length → wr.cell? ⟨gu, j, none⟩ = some (.int .i32 (ws.getD j 0))
  want : ∀ j, j < ws.length → wr.cell? ⟨gw, j, none⟩ = some (.int .i32 (ws.getD j 0))
  bel : Below w.heap.size w wr

theorem S3.drewN {w wr : World} {m cap gr tb : Nat} {ts : List (Int × Int × Int)} {gu gw capu : Nat} {ws : List Int} (h : S3 w wr m cap gr tb ts gu gw capu ws) : S3 w wr.drew m cap gr tb ts gu gw capu ws :=
  ⟨h.c3, h.c4, h.ns, h.ref, h.u, h.want, h.bel.drew⟩

theorem S3.draws {w wr : World} {m cap gr tb : Nat} {ts : List (Int × Int × Int)} {gu gw capu : Nat} {ws : List Int} (h : S3 w wr m cap gr tb ts gu gw capu ws) (n : Nat) : S3 w (wr.drewN n) m cap gr tb ts gu gw capu ws :=
  ⟨h.c3, h.c4, h.ns, h.ref, h.u, h.want, ⟨h.bel.os, h.bel.tape, h.bel.output, h.bel.size, h.bel.block⟩⟩

theorem s3_of {w wx w' : World} {m cap gr tb : Nat} {ts : List (Int × Int × Int)} {gu gw capu : Nat} {us : List Int} {v : Int} (hm : ts.length = m + 1)
    (h : S2 w wx (m + 1) cap gr ts gu gw capu us (us ++ und v)) (htb : tb = wx.heap.size) (o : Obj)
    {u : Nat} (R : Restored (wx.alloc o) w' tb w.heap.size m cap gu u capu (gr + 1) us v) : S3 w w' m cap gr tb ts gu gw capu (us ++ und v) := by
  have l1 := h.s1.lt
  have l2 := h.u.lt
  have l3 := h.want.lt
  have hs := h.s1.bel.size
  have hblk : ∀ k, k < wx.heap.size → k ≠ gu → w'.heap[k]? = wx.heap[k]? := fun k hk hg =>
    (R.block k (by simp; omega) (by omega) hg).trans (Below.heap_alloc wx o k hk)
  have hcell : ∀ k j, k < wx.heap.size → k ≠ gu → w'.cell? ⟨k, j, none⟩ = wx.cell? ⟨k, j, none⟩ := fun k j hk hg => World.cell?_of_block (hblk k hk hg)
  refine ⟨R.c3, R.c4, fun j hj => ?_, fun j hj => ?_, fun j hj => ?_, fun j hj => ?_, ?_⟩
  · rw [hcell _ _ (by omega) (by omega), hcell _ _ (by omega) (by omega), hcell _ _ (by omega) (by omega)]
    exact own_tcs h.s1.ns hm j hj
  · rw [hcell _ _ (by omega) (by omega), hcell _ _ (by omega) (by omega), hcell _ _ (by omega) (by omega)]
    exact own_tcs h.s1.ref hm j hj
  · exact Vers.cell (us := us ++ und v) R.own j hj
  · rw [hcell _ _ (by omega) (by omega)]
    exact h.want.cell j hj
  · exact h.s1.bel.trans ⟨R.os, R.tape, R.output, by have := R.size; simp at this; omega, fun k hk => hblk k (by omega) (by omega)⟩
end Go.Proofs.Ybulkbykw

/- The call's own rows: blocks that are apart, with their contents. -/
import Derived.Test.YbulkbynaOpen
import Derived.Deep.Draws
namespace Go.Proofs.Ybulkbyna
open Go.ChangeShapes Go.WideShapes Go.ChangeAt Go.RowKit
set_option linter.unusedVariables false

/-- The block g holds just these cells, of this type, none of them frozen. -/
def Blk (w : World) (g : Nat) (t : TypeId) (xs : List Value) : Prop := w.heap[g]? = some (.cells xs.toArray t (0, 0))

theorem Blk.lt {w : World} {g : Nat} {t : TypeId} {xs : List Value} (h : Blk w g t xs) : g < w.heap.size := (Array.getElem?_eq_some_iff.1 h).1
theorem Blk.cell {w : World} {g : Nat} {t : TypeId} {xs : List Value} (h : Blk w g t xs) (i : Nat) : w.cell? ⟨g, i, none⟩ = xs[i]? := by
  unfold Blk at h
  simp [World.cell?, h]
theorem Blk.frozen {w : World} {g : Nat} {t : TypeId} {xs : List Value} (h : Blk w g t xs) (i : Nat) : w.frozen? ⟨g, i, none⟩ = false := by
  unfold Blk at h
  simp [World.frozen?, h]
theorem Blk.ne {w : World} {g g' : Nat} {t t' : TypeId} {xs xs' : List Value} (h : Blk w g t xs) (h' : Blk w g' t' xs') (ht : t ≠ t') : g ≠ g' := fun e => by
  subst e
  unfold Blk at h h'
  rw [h] at h'
  have := Option.some.inj h'
  simp only [Obj.cells.injEq] at this
  exact ht this.2.1
theorem Blk.alloc {w : World} {g : Nat} {t : TypeId} {xs : List Value} (h : Blk w g t xs) (o : Obj) : Blk (w.alloc o) g t xs := by
  unfold Blk
  rw [Below.heap_alloc w o g h.lt]
  exact h
theorem Blk.draws {w : World} {g : Nat} {t : TypeId} {xs : List Value} (h : Blk w g t xs) (q : Nat) : Blk (w.drewN q) g t xs := h
theorem Blk.below {w w' : World} {g k : Nat} {t : TypeId} {xs : List Value} (h : Blk w g t xs) (hb : Below k w w') (hk : g < k) : Blk w' g t xs := by
  unfold Blk
  rw [hb.block g hk]
  exact h
theorem Blk.grown {w w' : World} {g : Nat} {t : TypeId} {xs : List Value} {r : Option Nat} (h : Blk w g t xs) (hg : w.grownBy w' r) (hr : some g ≠ r) : Blk w' g t xs := by
  unfold Blk
  rw [hg.block g h.lt hr]
  exact h
theorem Blk.other {w : World} {g g' : Nat} {t : TypeId} {xs : List Value} (h : Blk w g t xs) (hne : g ≠ g') (i : Nat) (v : Value) : Blk (w.setCell ⟨g', i, none⟩ v) g t xs := by
  unfold Blk
  rw [Below.heap_setCell _ _ _ _ hne]
  exact h
theorem Blk.set {w : World} {g : Nat} {t : TypeId} {xs : List Value} (h : Blk w g t xs) (i : Nat) (v : Value) : Blk (w.setCell ⟨g, i, none⟩ v) g t (xs.set i v) := by
  unfold Blk at h ⊢
  simp [World.setCell, Array.getElem?_modify, h]
/-- A row that a make has made. -/
theorem Blk.made {w' : World} {base g n sz : Nat} {t : TypeId} {xs : List Value} (h : w'.ownsRow base t sz (.slice (some ⟨g, 0, none⟩) n n) n xs) : Blk w' g t xs ∧ base ≤ g := by
  rcases h.2 with ⟨h1, _⟩ | ⟨g', cap, cur, h1, hb, hg, hn, hm, hs, ht⟩
  · cases h1
  · simp only [Value.slice.injEq, Option.some.injEq, Addr.mk.injEq, and_true, true_and] at h1
    obtain ⟨rfl, rfl⟩ := h1
    refine ⟨?_, hb⟩
    unfold Blk
    rw [hg]
    have hl : cur.toList.take (n * sz) = cur.toList := List.take_of_length_le (by simp [hs])
    rw [← ht, hl]

/-- The rows by their numbers: 0 users · 1 user · 2 f · 3 col · 4 vars · 5 w · 6 limit · 11 z · 12 nu · 13 t · 14 lam · 15 c · 16 eta · 17 amount · 18 the solver itself · 19 used · 20-23 the rows of the residuals · 24 their variable. -/
def ty : Nat → TypeId
  | 0 => 30 | 1 => 3 | 3 => 42 | 4 => 32 | 18 => 40 | 24 => 51 | _ => 41

def upd {α : Type} (f : Nat → α) (k : Nat) (v : α) : Nat → α := fun j => if j = k then v else f j
theorem upd_same {α : Type} (f : Nat → α) (k : Nat) (v : α) : upd f k v k = v := by simp [upd]
theorem upd_other {α : Type} (f : Nat → α) {k j : Nat} (v : α) (h : j ≠ k) : upd f k v j = f j := by simp [upd, h]

structure Mem (L : List Nat) (b : Nat → Nat) (c : Nat → List Value) (w0 w : World) : Prop where
  blk : ∀ k ∈ L, Blk w (b k) (ty k) (c k)
  base : ∀ k ∈ L, w0.heap.size ≤ b k
  inj : ∀ i ∈ L, ∀ j ∈ L, b i = b j → i = j
  bel : Below w0.heap.size w0 w

section
variable {L : List Nat} {b : Nat → Nat} {c : Nat → List Value} {w0 w w' : World}
theorem Mem.start (b : Nat → Nat) (c : Nat → List Value) (w : World) : Mem [] b c w w := ⟨by simp, by simp, by simp, Below.refl _ _⟩
theorem Mem.alloc (h : Mem L b c w0 w) (o : Obj) : Mem L b c w0 (w.alloc o) := ⟨fun k hk => (h.blk k hk).alloc o, h.base, h.inj, h.bel.alloc h.bel.size o⟩
theorem Mem.draws (h : Mem L b c w0 w) (q : Nat) : Mem L b c w0 (w.drewN q) := ⟨h.blk, h.base, h.inj, ⟨h.bel.os, h.bel.tape, h.bel.output, h.bel.size, h.bel.block⟩⟩
theorem Mem.draw (h : Mem L b c w0 w) : Mem L b c w0 w.drew := h.draws 1
theorem Mem.set (h : Mem L b c w0 w) {k : Nat} (hk : k ∈ L) (i : Nat) (v : Value) : Mem L b (upd c k ((c k).set i v)) w0 (w.setCell ⟨b k, i, none⟩ v) := by
  refine ⟨fun j hj => ?_, h.base, h.inj, h.bel.setCell (h.base k hk) v⟩
  by_cases e : j = k
  · subst e; rw [upd_same]; exact (h.blk j hj).set i v
  · rw [upd_other _ _ e]; exact (h.blk j hj).other (fun e' => e (h.inj j hj k hk e')) i v
/-- A store into a block that is none of the rows. -/
theorem Mem.aside (h : Mem L b c w0 w) {g : Nat} (hg : w0.heap.size ≤ g) (hne : ∀ k ∈ L, b k ≠ g) (i : Nat) (v : Value) : Mem L b c w0 (w.setCell ⟨g, i, none⟩ v) :=
  ⟨fun j hj => (h.blk j hj).other (hne j hj) i v, h.base, h.inj, h.bel.setCell hg v⟩
/-- A new row. -/
theorem Mem.new (h : Mem L b c w0 w) (hg : w.grownBy w' none) {k n sz : Nat} {xs : List Value} (ho : w'.ownsRow w0.heap.size (ty k) sz (.slice (some ⟨w.heap.size, 0, none⟩) n n) n xs) (hk : k ∉ L) :
    Mem (k :: L) (upd b k w.heap.size) (upd c k xs) w0 w' := by
  obtain ⟨hb, hbase⟩ := Blk.made ho
  have hlt : ∀ j ∈ L, b j ≠ w.heap.size := fun j hj e => by have := (h.blk j hj).lt; omega
  have hne : ∀ j ∈ L, j ≠ k := fun j hj e => hk (e ▸ hj)
  refine ⟨fun j hj => ?_, fun j hj => ?_, fun i hi j hj e => ?_, h.bel.grown hg h.bel.size (fun k h => by cases h)⟩
  · rcases List.mem_cons.1 hj with rfl | hj
    · rw [upd_same, upd_same]; exact hb
    · rw [upd_other _ _ (hne j hj), upd_other _ _ (hne j hj)]; exact (h.blk j hj).grown hg (by simp)
  · rcases List.mem_cons.1 hj with rfl | hj
    · rw [upd_same]; exact hbase
    · rw [upd_other _ _ (hne j hj)]; exact h.base j hj
  · rcases List.mem_cons.1 hi with h1 | h1 <;> rcases List.mem_cons.1 hj with h2 | h2
    · rw [h1, h2]
    · rw [h1, upd_same, upd_other _ _ (hne j h2)] at e; exact absurd e.symm (hlt j h2)
    · rw [h2, upd_same, upd_other _ _ (hne i h1)] at e; exact absurd e (hlt i h1)
    · rw [upd_other _ _ (hne i h1), upd_other _ _ (hne j h2)] at e; exact h.inj i h1 j h2 e
theorem Mem.grown (h : Mem L b c w0 w) {r : Option Nat} (hg : w.grownBy w' r) (hr : ∀ k ∈ L, some (b k) ≠ r) (hb : ∀ k, r = some k → w0.heap.size ≤ k) : Mem L b c w0 w' :=
  ⟨fun k hk => (h.blk k hk).grown hg (hr k hk), h.base, h.inj, h.bel.grown hg h.bel.size hb⟩
theorem Mem.cell (h : Mem L b c w0 w) {k : Nat} (hk : k ∈ L) (i : Nat) : w.cell? ⟨b k, i, none⟩ = (c k)[i]? := (h.blk k hk).cell i
theorem Mem.fro (h : Mem L b c w0 w) {k : Nat} (hk : k ∈ L) (i : Nat) : w.frozen? ⟨b k, i, none⟩ = false := (h.blk k hk).frozen i
theorem Mem.lt (h : Mem L b c w0 w) {k : Nat} (hk : k ∈ L) : b k < w.heap.size := (h.blk k hk).lt
end
end Go.Proofs.Ybulkbyna

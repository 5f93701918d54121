/- THE MACHINE IN MEMORY: one block M of 37 cells (type 54); eleven of them are slices whose rows the call itself has made, each in a block of its own. -/
import Derived.Test.YbulkbykwCommon
import Derived.Deep.Draws
namespace Go.Proofs.Ybulkbykw
open Go.ChangeShapes Go.WideShapes Go.ChangeAt Go.RowKit
set_option linter.unusedVariables false

/-- The cells of M that hold rows: two queues' threads, flat, shared; pending; unsetFlat; the store's data, refs, born. -/
def isRow (k : Nat) : Bool := k == 6 || k == 7 || k == 8 || k == 11 || k == 12 || k == 13 || k == 14 || k == 22 || k == 29 || k == 30 || k == 32
/-- Their elements' types and sizes. -/
def ety (k : Nat) : TypeId := if k == 6 || k == 11 then 56 else if k == 8 || k == 13 then 44 else if k == 14 then 58 else if k == 30 then 21 else if k == 32 then 36 else 3
def esz (k : Nat) : Nat := if k == 6 || k == 11 then 2 else if k == 14 then 3 else 1

def upd {α : Type} (f : Nat → α) (k : Nat) (v : α) : Nat → α := fun j => if j = k then v else f j
theorem upd_same {α : Type} (f : Nat → α) (k : Nat) (v : α) : upd f k v k = v := by simp [upd]
theorem upd_other {α : Type} (f : Nat → α) {k j : Nat} (v : α) (h : j ≠ k) : upd f k v j = f j := by simp [upd, h]

structure MS (M : Nat) (w : World) (f : Nat → Value) (n : Nat → Nat) (xs : Nat → List Value) : Prop where
  cell : ∀ k, k < 37 → w.cell? ⟨M, k, none⟩ = some (f k)
  fro : ∀ k, w.frozen? ⟨M, k, none⟩ = false
  rows : ∀ k, isRow k = true → w.ownsRow (M + 1) (ety k) (esz k) (f k) (n k) (xs k)
  apart : ∀ k k', isRow k = true → isRow k' = true → k ≠ k' → ∀ g, (f k).ownBlock = some g → (f k').ownBlock ≠ some g

section
variable {M : Nat} {w w' : World} {f : Nat → Value} {n : Nat → Nat} {xs : Nat → List Value}

theorem MS.lt (h : MS M w f n xs) : M < w.heap.size := World.block_lt_of_cell? w ⟨M, 0, none⟩ (h.cell 0 (by omega))

/-- Whatever leaves M and every row's block as it was. -/
theorem MS.keep (h : MS M w f n xs) (hM : w'.heap[M]? = w.heap[M]?) (hr : ∀ k, isRow k = true → ∀ g, (f k).ownBlock = some g → w'.heap[g]? = w.heap[g]?) : MS M w' f n xs := by
  refine ⟨fun k hk => (World.cell?_of_block (a := ⟨M, k, none⟩) hM).trans (h.cell k hk), fun k => (World.frozen?_of_block (a := ⟨M, k, none⟩) hM).trans (h.fro k), fun k hk => ?_, h.apart⟩
  have hown := h.rows k hk
  refine ⟨hown.1, ?_⟩
  rcases hown.2 with h0 | ⟨g, cap, cur, hv, hb, hg, rest⟩
  · exact .inl h0
  · exact .inr ⟨g, cap, cur, hv, hb, by rw [hr k hk g (by rw [hv]; rfl)]; exact hg, rest⟩

theorem MS.row_lt (h : MS M w f n xs) {k : Nat} (hk : isRow k = true) {g : Nat} (hg : (f k).ownBlock = some g) : M < g ∧ g < w.heap.size := by
  have := (h.rows k hk).lt g hg
  omega

theorem MS.grow (h : MS M w f n xs) (hg : w.grownBy w' none) : MS M w' f n xs :=
  h.keep (hg.block M h.lt (by simp)) (fun k hk g e => hg.block g (h.row_lt hk e).2 (by simp))
theorem MS.alloc (h : MS M w f n xs) (o : Obj) : MS M (w.alloc o) f n xs := h.grow (World.grownBy_alloc w o none)
theorem MS.drew (h : MS M w f n xs) : MS M w.drew f n xs := h.keep rfl (fun _ _ _ _ => rfl)
theorem MS.draws (h : MS M w f n xs) (k : Nat) : MS M (w.drewN k) f n xs := h.keep rfl (fun _ _ _ _ => rfl)

theorem cell_set (w : World) (M k j : Nat) (v u : Value) (h : w.cell? ⟨M, k, none⟩ = some u) : (w.setCell ⟨M, k, none⟩ v).cell? ⟨M, j, none⟩ = if j = k then some v else w.cell? ⟨M, j, none⟩ := by
  by_cases e : j = k
  · subst e; rw [if_pos rfl]; exact World.cell?_setCell_same _ _ _ h
  · rw [if_neg e, World.cell?_setCell_other _ _ _ _ (fun h => e (congrArg Addr.off h).symm)]

/-- A store into a cell of M that holds no row. -/
theorem MS.set (h : MS M w f n xs) {k : Nat} (hk : k < 37) (hr : isRow k = false) (v : Value) : MS M (w.setCell ⟨M, k, none⟩ v) (upd f k v) n xs := by
  have hf : ∀ j, isRow j = true → upd f k v j = f j := fun j hj => upd_other f v (fun e => by rw [e, hr] at hj; cases hj)
  refine ⟨fun j hj => ?_, fun j => by rw [World.frozen?_setCell]; exact h.fro j, fun j hj => ?_, fun j j' hj hj' hne g hg => ?_⟩
  · rw [cell_set w M k j v _ (h.cell k hk)]
    by_cases e : j = k
    · subst e; rw [if_pos rfl, upd_same]
    · rw [if_neg e, upd_other f v e]; exact h.cell j hj
  · rw [hf j hj]
    exact ownsRow_setCell_below (h.rows j hj) (by simp) v
  · rw [hf j hj] at hg
    rw [hf j' hj']
    exact h.apart j j' hj hj' hne g hg

/-- A row's cell of M gets another slice: one that owns its row, in a block that is no other row's. -/
theorem MS.setRow (h : MS M w f n xs) {k : Nat} (hk : k < 37) (hr : isRow k = true) {v : Value} {m : Nat} {ys : List Value} (hown : w.ownsRow (M + 1) (ety k) (esz k) v m ys)
    (hap : ∀ j, isRow j = true → j ≠ k → ∀ g, v.ownBlock = some g → (f j).ownBlock ≠ some g) : MS M (w.setCell ⟨M, k, none⟩ v) (upd f k v) (upd n k m) (upd xs k ys) := by
  refine ⟨fun j hj => ?_, fun j => by rw [World.frozen?_setCell]; exact h.fro j, fun j hj => ?_, fun j j' hj hj' hne g hg => ?_⟩
  · rw [cell_set w M k j v _ (h.cell k hk)]
    by_cases e : j = k
    · subst e; rw [if_pos rfl, upd_same]
    · rw [if_neg e, upd_other f v e]; exact h.cell j hj
  · by_cases e : j = k
    · subst e
      rw [upd_same, upd_same, upd_same]
      exact ownsRow_setCell_below hown (by simp) v
    · rw [upd_other f v e, upd_other n m e, upd_other xs ys e]
      exact ownsRow_setCell_below (h.rows j hj) (by simp) v
  · by_cases e : j = k
    · subst e
      rw [upd_same] at hg
      rw [upd_other f v (fun e => hne e.symm)]
      exact hap j' hj' (fun e => hne e.symm) g hg
    · rw [upd_other f v e] at hg
      by_cases e' : j' = k
      · subst e'
        rw [upd_same]
        exact fun h' => hap j hj e g h' hg
      · rw [upd_other f v e']
        exact h.apart j j' hj hj' hne g hg

/-- Behind an append to row k ('x.f = append(x.f, ..)'): the new slice has been stored back. -/
theorem MS.append (h : MS M w f n xs) {k : Nat} (hk : k < 37) (hr : isRow k = true) {v : Value} {m : Nat} {ys : List Value} (hg : w.grownBy w' (f k).ownBlock) (hown : w'.ownsRow (M + 1) (ety k) (esz k) v m ys)
    {H : Nat} (hH : w.heap.size ≤ H) (hat : v.ownBlock = (f k).ownBlock ∨ v.ownBlock = some H) : MS M (w'.setCell ⟨M, k, none⟩ v) (upd f k v) (upd n k m) (upd xs k ys) := by
  have hM : w'.heap[M]? = w.heap[M]? := hg.block M h.lt (fun e => by have := h.row_lt hr e.symm; omega)
  have hb : ∀ j, isRow j = true → j ≠ k → ∀ g, (f j).ownBlock = some g → w'.heap[g]? = w.heap[g]? := fun j hj hne g e => hg.block g (h.row_lt hj e).2 (fun e' => h.apart j k hj hr hne g e e'.symm)
  have hc : ∀ j, j < 37 → w'.cell? ⟨M, j, none⟩ = some (f j) := fun j hj => (World.cell?_of_block (a := ⟨M, j, none⟩) hM).trans (h.cell j hj)
  have hrow : ∀ j, isRow j = true → j ≠ k → w'.ownsRow (M + 1) (ety j) (esz j) (f j) (n j) (xs j) := fun j hj hne => by
    have ho := h.rows j hj
    refine ⟨ho.1, ?_⟩
    rcases ho.2 with h0 | ⟨g, cap, cur, hv, hbb, hgg, rest⟩
    · exact .inl h0
    · exact .inr ⟨g, cap, cur, hv, hbb, by rw [hb j hj hne g (by rw [hv]; rfl)]; exact hgg, rest⟩
  have hap : ∀ j, isRow j = true → j ≠ k → ∀ g, v.ownBlock = some g → (f j).ownBlock ≠ some g := fun j hj hne g e e' => by
    rcases hat with ha | ha
    · rw [ha] at e; exact h.apart j k hj hr hne g e' e
    · rw [ha] at e
      have := (h.row_lt hj e').2
      cases e; omega
  refine ⟨fun j hj => ?_, fun j => by rw [World.frozen?_setCell]; exact (World.frozen?_of_block (a := ⟨M, j, none⟩) hM).trans (h.fro j), fun j hj => ?_, fun j j' hj hj' hne g hg' => ?_⟩
  · rw [cell_set w' M k j v _ (hc k hk)]
    by_cases e : j = k
    · subst e; rw [if_pos rfl, upd_same]
    · rw [if_neg e, upd_other f v e]; exact hc j hj
  · by_cases e : j = k
    · subst e
      rw [upd_same, upd_same, upd_same]
      exact ownsRow_setCell_below hown (by simp) v
    · rw [upd_other f v e, upd_other n m e, upd_other xs ys e]
      exact ownsRow_setCell_below (hrow j hj e) (by simp) v
  · by_cases e : j = k
    · subst e
      rw [upd_same] at hg'
      rw [upd_other f v (fun e => hne e.symm)]
      exact hap j' hj' (fun e => hne e.symm) g hg'
    · rw [upd_other f v e] at hg'
      by_cases e' : j' = k
      · subst e'
        rw [upd_same]
        exact fun h' => hap j hj e g h' hg'
      · rw [upd_other f v e']
        exact h.apart j j' hj hj' hne g hg'

/-- A row's slice, in one form: nil is '.slice none 0 0'. -/
theorem MS.slice (h : MS M w f n xs) {k : Nat} (hr : isRow k = true) : ∃ ao cap, f k = .slice ao (n k) cap ∧ n k ≤ cap ∧ cap ≤ maxLen ∧ (ao = none → n k = 0 ∧ cap = 0) ∧ (∀ a, ao = some a → a = ⟨a.block, 0, none⟩) := by
  rcases (h.rows k hr).2 with ⟨h1, h2⟩ | ⟨g, cap, cur, hv, _, _, h3, h4, _⟩
  · exact ⟨none, 0, by rw [h1, h2], by omega, by unfold maxLen; omega, fun _ => ⟨h2, rfl⟩, fun a ha => (by cases ha)⟩
  · exact ⟨some ⟨g, 0, none⟩, cap, hv, h3, h4, fun e => (by cases e), fun a ha => (by cases ha; rfl)⟩

theorem own_zero {w : World} {B e size : Nat} {ao : Option Addr} {n cap : Nat} {ys : List Value} (h : w.ownsRow B e size (.slice ao n cap) n ys) : w.ownsRow B e size (.slice ao 0 cap) 0 [] := by
  refine ⟨by simp, ?_⟩
  rcases h.2 with ⟨h1, h2⟩ | ⟨g, c, cur, hv, hb, hg, h3, h4, h5, _⟩
  · cases h1; exact .inl ⟨rfl, rfl⟩
  · cases hv; exact .inr ⟨g, cap, cur, rfl, hb, hg, Nat.zero_le _, h4, h5, by simp⟩

/-- 'x.f = x.f[:0]' on a row. -/
theorem MS.cut0 (h : MS M w f n xs) {k : Nat} (hk : k < 37) (hr : isRow k = true) {ao : Option Addr} {cap : Nat} (hf : f k = .slice ao (n k) cap) :
    MS M (w.setCell ⟨M, k, none⟩ (.slice ao 0 cap)) (upd f k (.slice ao 0 cap)) (upd n k 0) (upd xs k []) := by
  have ho := h.rows k hr
  rw [hf] at ho
  refine h.setRow hk hr (own_zero ho) (fun j hj hne g e => ?_)
  refine h.apart k j hr hj (fun e => hne e.symm) g ?_
  rw [hf]
  cases ao <;> simp_all [Value.ownBlock]

/-- A row's cell of M gets nil. -/
theorem MS.nil (h : MS M w f n xs) {k : Nat} (hk : k < 37) (hr : isRow k = true) : MS M (w.setCell ⟨M, k, none⟩ (.slice none 0 0)) (upd f k (.slice none 0 0)) (upd n k 0) (upd xs k []) :=
  h.setRow hk hr (World.ownsRow_nil _ _ _ _) (fun j hj hne g e => by cases e)

/-- A store into a row's element. -/
theorem MS.store (h : MS M w f n xs) {k g cap : Nat} (hr : isRow k = true) (hf : f k = .slice (some ⟨g, 0, none⟩) (n k) cap) (j : Nat) (v : Value) : MS M (w.setCell ⟨g, j, none⟩ v) f n (upd xs k ((xs k).set j v)) := by
  have ho := h.rows k hr
  rw [hf] at ho
  have hst := ho.stored j v
  have hgM := h.row_lt hr (show (f k).ownBlock = some g by rw [hf]; rfl)
  have hM : (w.setCell ⟨g, j, none⟩ v).heap[M]? = w.heap[M]? := heap_setCell_other w ⟨g, j, none⟩ M v (by simp; omega)
  refine ⟨fun i hi => (World.cell?_of_block (a := ⟨M, i, none⟩) hM).trans (h.cell i hi), fun i => by rw [World.frozen?_setCell]; exact h.fro i, fun i hi => ?_, h.apart⟩
  by_cases e : i = k
  · subst e
    rw [upd_same, hf]
    exact hst.1
  · rw [upd_other xs _ e]
    refine (h.rows i hi).kept hst.2 ?_
    cases hb : (f i).ownBlock with
    | none => exact .inl rfl
    | some g' => refine .inr (fun e' => ?_); cases e'; exact h.apart i k hi hr e g hb (by rw [hf]; rfl)
end
theorem own_shape {w : World} {B e size m : Nat} {v : Value} {ys : List Value} (h : w.ownsRow B e size v m ys) : ∃ ao cap, v = .slice ao m cap := by
  rcases h.2 with ⟨h1, h2⟩ | ⟨g, cap, cur, hv, _⟩
  · exact ⟨none, 0, by rw [h1, h2]⟩
  · exact ⟨_, cap, hv⟩

section
variable {M : Nat} {w w' : World} {f : Nat → Value} {n : Nat → Nat} {xs : Nat → List Value}

/-- M's cells behind an append to one of its rows. -/
theorem MS.cells_grown (h : MS M w f n xs) {k : Nat} (hr : isRow k = true) (hg : w.grownBy w' (f k).ownBlock) : (∀ j, j < 37 → w'.cell? ⟨M, j, none⟩ = some (f j)) ∧ ∀ j, w'.frozen? ⟨M, j, none⟩ = false := by
  have hM : w'.heap[M]? = w.heap[M]? := hg.block M h.lt (fun e => by have := h.row_lt hr e.symm; omega)
  exact ⟨fun j hj => (World.cell?_of_block (a := ⟨M, j, none⟩) hM).trans (h.cell j hj), fun j => (World.frozen?_of_block (a := ⟨M, j, none⟩) hM).trans (h.fro j)⟩

/-- Below M an append to a row turns nothing. -/
theorem MS.below_grown (h : MS M w f n xs) {k : Nat} (hr : isRow k = true) (hg : w.grownBy w' (f k).ownBlock) : Below M w w' :=
  (Below.refl M w).grown hg (Nat.le_of_lt h.lt) (fun g e => by have := h.row_lt hr e; omega)
end

end Go.Proofs.Ybulkbykw

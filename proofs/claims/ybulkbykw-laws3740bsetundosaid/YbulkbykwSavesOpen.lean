/- A slice of Saves, as it is read: its cells. -/
import Derived.Test.YbulkbykwNoted
import Derived.Deep.Slices
import Derived.Deep.Strs
namespace Go.Proofs.Ybulkbykw
open Go.ChangeShapes Go.WideShapes Go.ChangeAt Go.RowKit Go.Deep
set_option linter.unusedVariables false

theorem cells76 : Yba.prog.cellsOf 76 = 3 := by kernel_rfl
theorem cells3 : Yba.prog.cellsOf 3 = 1 := by kernel_rfl
theorem cells21 : Yba.prog.cellsOf 21 = 1 := by kernel_rfl

section
variable {H : Type} {enc : TypeId × Value → H} {w : World} {base : Nat} {spare : Nat → Bool} {held : Bool}

theorem save_cells {n : Nat} {cs : List Value} {x : DataW H × List MemPlace} (h : DataW.trod enc Yba.prog w base spare held n 76 cs = some x) : ∃ t : Int × Int × Int, cs = tc t := by
  obtain ⟨y0, y1, y2, k, _, hl, h0, h1, h2⟩ := trod_struct3 Yba.underlying76 h
  rw [cells76] at hl
  match cs, hl with
  | [c0, c1, c2], _ =>
    simp [cells3, cells21] at h0 h1 h2
    obtain ⟨a, e0, _, _⟩ := DataW.trod_int Yba.underlying3 h0
    obtain ⟨b, e1, _, _⟩ := DataW.trod_int Yba.underlying3 h1
    obtain ⟨c, e2, _, _⟩ := DataW.trod_int Yba.underlying21 h2
    simp at e0 e1 e2
    subst e0 e1 e2
    exact ⟨(a, b, c), rfl⟩

theorem saves_open {fuel : Nat} {a : Option Addr} {len cap : Nat} {x : DataW H × List MemPlace} (hf : DataW.trod enc Yba.prog w base spare held fuel 69 [.slice a len cap] = some x) : ∃ ts, IsSaves w a len cap ts := by
  rcases open_slice Yba.underlying69 hf with ⟨hcs, _⟩ | ⟨ad, l, c, m, n, D, Pl, hcs, hb, hl, hm, hmm, _, hx⟩
  · simp at hcs
    obtain ⟨rfl, rfl, rfl⟩ := hcs
    exact ⟨[], rfl, fun _ => ⟨rfl, rfl⟩, fun i hi => by omega, fun _ _ h => by cases h⟩
  · simp at hcs
    obtain ⟨rfl, rfl, rfl⟩ := hcs
    have hlm : len ≤ m := by rw [hmm]; split <;> omega
    have each : ∀ i, i < len → ∃ t : Int × Int × Int, w.cell? (ad.add (i * 3)) = some (.int .i64 t.1) ∧ w.cell? (ad.add (i * 3 + 1)) = some (.int .i64 t.2.1) ∧ w.cell? (ad.add (i * 3 + 2)) = some (.int .i32 t.2.2) := by
      intro i hi
      obtain ⟨cs', h1, h2⟩ := hx i (by omega)
      rw [cells76] at h1
      obtain ⟨t, rfl⟩ := save_cells h2
      obtain ⟨_, _, hc⟩ := World.cells?_some h1
      have e0 := hc 0 (by omega)
      have e1 := hc 1 (by omega)
      have e2 := hc 2 (by omega)
      rw [add_add] at e0 e1 e2
      exact ⟨t, e0, e1, e2⟩
    obtain ⟨f, hf⟩ := choose_lt each
    have hget : ∀ i, i < len → ((List.range len).map f).getD i (0, 0, 0) = f i := fun i hi => by simp [List.getD, hi]
    refine ⟨(List.range len).map f, by simp, fun h => (by cases h), fun i hi => ?_, fun b off h i hi => ?_⟩
    · obtain ⟨b, off, s⟩ := ad
      have h0 := (hf 0 (by omega)).1
      have hs : s = none := by simpa [Addr.add] using World.cell?_spot h0
      subst hs
      exact ⟨b, off, rfl, World.block_lt_of_cell? w ⟨b, off + i * 3, none⟩ (by have := (hf i hi).1; rwa [Addr.add_lit] at this)⟩
    · cases h
      have := hf i hi
      rw [Addr.add_lit, Addr.add_lit, Addr.add_lit] at this
      rw [hget i hi]
      exact ⟨this.1, this.2.1, this.2.2⟩
end
end Go.Proofs.Ybulkbykw

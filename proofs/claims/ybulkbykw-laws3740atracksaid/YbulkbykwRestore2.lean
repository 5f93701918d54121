/- '(*slotTracker).restore' with no flat slots: the latest Save is popped; its version, if one was made, goes to 'undone'. -/
import Derived.Test.YbulkbykwCommon
namespace Go.Proofs.Ybulkbykw
open Go.ChangeShapes Go.WideShapes Go.ChangeAt Go.RowKit
set_option linter.unusedVariables false

theorem info44 : (Yba.prog.info? 44).map (fun i => (i.zero, i.size, i.bytes)) = some (some (.int .i32 0), 1, 4) := by kernel_rfl

set_option maxHeartbeats 400000 in
theorem restore_none (fo : Option Addr) (fc tb g m cap : Nat) (i e : Int) (w : World) (hmc : m + 1 ≤ cap) (hmax : cap ≤ 1048576)
    (h3 : w.cell? ⟨tb, 3, none⟩ = some (.slice (some ⟨g, 0, none⟩) (m + 1) cap)) (hf3 : w.frozen? ⟨tb, 3, none⟩ = false) (hm : w.cell? ⟨g, m * 3 + 2, none⟩ = some (.int .i32 (-1))) :
    Calls Yba.prog 10 #[.pointer (some ⟨tb, 0, none⟩), .slice fo 0 fc, .int .i64 i, .int .i64 e] w fun r w' => r = .returned (.tuple #[]) ∧ w' = w.setCell ⟨tb, 3, none⟩ (.slice (some ⟨g, 0, none⟩) m cap) := by
  go_enter Yba.func10, Yba.ntmps10
  go_wp2
  go_returns
  exact ⟨rfl, rfl⟩

theorem one_cell (w : World) (v : Value) (n : Nat) (hn : n = w.heap.size) (t : TypeId) : ∀ j u, [v][j]? = some u → (w.alloc (.cells #[v] t)).cell? ((⟨n, 0, none⟩ : Addr).add j) = some u := by
  subst hn
  intro j u hu
  match j, hu with
  | 0, hu => simp at hu; subst hu; simp [Addr.add]

set_option maxHeartbeats 400000 in
theorem restore_some (fo : Option Addr) (fc tb g m cap gu u capu base : Nat) (us : List Value) (i e v : Int) (w : World) (hmc : m + 1 ≤ cap) (hmax : cap ≤ 1048576) (hv : (v != -1) = true) (hu : u < capu) (hne : tb ≠ gu) (hlt : tb < w.heap.size) (hgl : g < w.heap.size) (hgne : g ≠ gu)
    (h3 : w.cell? ⟨tb, 3, none⟩ = some (.slice (some ⟨g, 0, none⟩) (m + 1) cap)) (hf3 : w.frozen? ⟨tb, 3, none⟩ = false) (hm : w.cell? ⟨g, m * 3 + 2, none⟩ = some (.int .i32 v))
    (h4 : w.cell? ⟨tb, 4, none⟩ = some (.slice (some ⟨gu, 0, none⟩) u capu)) (hf4 : w.frozen? ⟨tb, 4, none⟩ = false) (hown : w.ownsRow base 44 1 (.slice (some ⟨gu, 0, none⟩) u capu) u us) :
    Calls Yba.prog 10 #[.pointer (some ⟨tb, 0, none⟩), .slice fo 0 fc, .int .i64 i, .int .i64 e] w fun r w' => r = .returned (.tuple #[]) ∧
      ∃ w1, w1.ownsRow base 44 1 (.slice (some ⟨gu, 0, none⟩) (u + 1) capu) (u + 1) (us ++ [.int .i32 v]) ∧ (w.alloc (.cells #[.int .i32 v] 44)).grownBy w1 (some gu) ∧
        w' = (w1.setCell ⟨tb, 4, none⟩ (.slice (some ⟨gu, 0, none⟩) (u + 1) capu)).setCell ⟨tb, 3, none⟩ (.slice (some ⟨g, 0, none⟩) m cap) := by
  obtain ⟨i0, hi, hz0, hz1, hz2⟩ := info_parts info44
  go_enter Yba.func10, Yba.ntmps10
  go_wp2_with (at_builtin; refine wpList_append_fits _ rfl (.tmp 37) (.tmp 39) 38 rfl base 44 i0 1 Yba.underlying38 hi hz1 gu u capu us rfl (hown.alloc _) ⟨w.heap.size, 0, none⟩ 1 1 [.int .i32 v] rfl rfl (one_cell _ _ _ (by simp) _) (by simp [Value.oneCell']) (by omega) ?_; intro w1 hown1 hgrow1; have hc3 : w1.cell? ⟨tb, 3, none⟩ = some (.slice (some ⟨g, 0, none⟩) (m + 1) cap) := hgrow1.cell (by rw [World.cell?_alloc_lt _ _ _ hlt]; exact h3) (by simpa using hne); have hc4 : w1.cell? ⟨tb, 4, none⟩ = some (.slice (some ⟨gu, 0, none⟩) u capu) := hgrow1.cell (by rw [World.cell?_alloc_lt _ _ _ hlt]; exact h4) (by simpa using hne); have hd3 : w1.frozen? ⟨tb, 3, none⟩ = false := (World.frozen?_of_block (a := ⟨tb, 3, none⟩) (hgrow1.block tb (by simp; omega) (by simpa using hne))).trans (by rw [World.frozen?_alloc_past _ _ _ hlt]; exact hf3); have hd4 : w1.frozen? ⟨tb, 4, none⟩ = false := (World.frozen?_of_block (a := ⟨tb, 4, none⟩) (hgrow1.block tb (by simp; omega) (by simpa using hne))).trans (by rw [World.frozen?_alloc_past _ _ _ hlt]; exact hf4))
  go_returns
  exact ⟨rfl, w1, hown1, hgrow1, rfl⟩
/-- What a version adds to 'undone'. -/
def und (v : Int) : List Int := if v = -1 then [] else [v]

/-- What 'restore' leaves: the tracker's two fields, the row of 'undone'; every other old block as it was. -/
structure Restored (w w' : World) (tb g m cap gu u capu base : Nat) (us : List Int) (v : Int) : Prop where
  c3 : w'.cell? ⟨tb, 3, none⟩ = some (.slice (some ⟨g, 0, none⟩) m cap)
  c4 : w'.cell? ⟨tb, 4, none⟩ = some (.slice (some ⟨gu, 0, none⟩) (us ++ und v).length capu)
  own : w'.ownsRow base 44 1 (.slice (some ⟨gu, 0, none⟩) (us ++ und v).length capu) (us ++ und v).length ((us ++ und v).map (Value.int .i32))
  os : w'.os = w.os
  tape : w'.tape = w.tape
  output : w'.output = w.output
  size : w.heap.size ≤ w'.heap.size
  block : ∀ k, k < w.heap.size → k ≠ tb → k ≠ gu → w'.heap[k]? = w.heap[k]?

theorem restore_shared (fo : Option Addr) (fc tb g m cap gu u capu base : Nat) (us : List Int) (i e v : Int) (w : World) (hmc : m + 1 ≤ cap) (hmax : cap ≤ 1048576) (hu : u < capu) (hul : us.length = u) (hne : tb ≠ gu) (hlt : tb < w.heap.size) (hgl : g < w.heap.size) (hgne : g ≠ gu)
    (h3 : w.cell? ⟨tb, 3, none⟩ = some (.slice (some ⟨g, 0, none⟩) (m + 1) cap)) (hf3 : w.frozen? ⟨tb, 3, none⟩ = false) (hm : w.cell? ⟨g, m * 3 + 2, none⟩ = some (.int .i32 v))
    (h4 : w.cell? ⟨tb, 4, none⟩ = some (.slice (some ⟨gu, 0, none⟩) u capu)) (hf4 : w.frozen? ⟨tb, 4, none⟩ = false) (hown : w.ownsRow base 44 1 (.slice (some ⟨gu, 0, none⟩) u capu) u (us.map (Value.int .i32))) :
    Calls Yba.prog 10 #[.pointer (some ⟨tb, 0, none⟩), .slice fo 0 fc, .int .i64 i, .int .i64 e] w fun r w' => r = .returned (.tuple #[]) ∧ Restored w w' tb g m cap gu u capu base us v := by
  by_cases hv : v = -1
  · subst hv
    refine (restore_none fo fc tb g m cap i e w hmc hmax h3 hf3 hm).mono ?_
    rintro r w' ⟨rfl, rfl⟩
    refine ⟨rfl, ?_⟩
    have hg : w.grownBy (w.setCell ⟨tb, 3, none⟩ (.slice (some ⟨g, 0, none⟩) m cap)) (some tb) := ⟨rfl, rfl, rfl, by simp, fun k _ hk => heap_setCell_other w ⟨tb, 3, none⟩ k _ (fun e => hk (by simp [e]))⟩
    have ho := hown.kept hg (.inr (by simpa [Value.ownBlock] using fun h => hne h.symm))
    exact ⟨World.cell?_setCell_same _ _ _ h3, by rw [World.cell?_setCell_other _ _ _ _ (by simp), h4]; simp [und, hul], by simpa [und, hul] using ho, rfl, rfl, rfl, by simp, fun k hk h1 h2 => hg.block k hk (by simpa using h1)⟩
  · refine (restore_some fo fc tb g m cap gu u capu base (us.map (Value.int .i32)) i e v w hmc hmax (by simpa using hv) hu hne hlt hgl hgne h3 hf3 hm h4 hf4 hown).mono ?_
    rintro r w' ⟨rfl, w1, hown1, hg1, rfl⟩
    refine ⟨rfl, ?_⟩
    have e1 : us ++ und v = us ++ [v] := by simp [und, hv]
    have el : (us ++ und v).length = u + 1 := by simp [e1, hul]
    have hc4 : w1.cell? ⟨tb, 4, none⟩ = some (.slice (some ⟨gu, 0, none⟩) u capu) := hg1.cell (by rw [World.cell?_alloc_lt _ _ _ hlt]; exact h4) (by simpa using hne)
    have hc3 : w1.cell? ⟨tb, 3, none⟩ = some (.slice (some ⟨g, 0, none⟩) (m + 1) cap) := hg1.cell (by rw [World.cell?_alloc_lt _ _ _ hlt]; exact h3) (by simpa using hne)
    have hgA : ∀ (wx : World) (j : Nat) (x : Value), wx.grownBy (wx.setCell ⟨tb, j, none⟩ x) (some tb) := fun wx j x => ⟨rfl, rfl, rfl, by simp, fun k _ hk => heap_setCell_other wx ⟨tb, j, none⟩ k _ (fun e => hk (by simp [e]))⟩
    have nt : (Value.slice (some ⟨gu, 0, none⟩) (u + 1) capu).ownBlock ≠ some tb := by simpa [Value.ownBlock] using fun h => hne h.symm
    refine ⟨?_, ?_, ?_, ?_, ?_, ?_, ?_, ?_⟩
    · exact World.cell?_setCell_same _ _ _ (u := .slice (some ⟨g, 0, none⟩) (m + 1) cap) (by rw [World.cell?_setCell_other _ _ _ _ (by simp)]; exact hc3)
    · rw [World.cell?_setCell_other _ _ _ _ (by simp), World.cell?_setCell_same _ _ _ hc4, el]
    · rw [el, e1]
      simpa using (hown1.kept (hgA w1 4 _) (.inr nt)).kept (hgA _ 3 _) (.inr nt)
    · exact hg1.os
    · exact hg1.tape
    · exact hg1.output
    · have := hg1.size; simp at this ⊢; omega
    · intro k hk h1 h2
      rw [(hgA _ 3 _).block k (by have := hg1.size; simp at this ⊢; omega) (by simpa using h1), (hgA w1 4 _).block k (by have := hg1.size; simp at this ⊢; omega) (by simpa using h1), hg1.block k (by simp; omega) (by simpa using h2)]
      exact Below.heap_alloc w _ k hk
end Go.Proofs.Ybulkbykw

/- The law's solver is whole; what 'residuals' leaves. -/
import Derived.Test.YbulkbynaLawM
import Derived.Test.YbulkbynaResid
namespace Go.Proofs.Ybulkbyna
open Go.ChangeShapes Go.WideShapes Go.ChangeAt Go.RowKit
set_option linter.unusedVariables false

def b2 (b : Nat → Nat) (k : Nat) : Nat := if k = 7 ∨ k = 8 ∨ k = 9 ∨ k = 10 then b 1 else b k
theorem eCells_get (I : Inp) (j n i : Nat) (hi : i < n * 2) : (eCells I j n)[i]? = some (eVal I j i) := by
  unfold eCells
  simp [hi]
theorem Bld.slv {I : Inp} {b : Nat → Nat} {w : World} (hI : I.Ok) (hE : ∀ j, j < I.nv → (I.V j).el ≤ 300) (h : Bld I b w I.nv (cntOf I.nv I.m I.nr)) : Slv w (b 18) (b2 b) (dat I) := by
  have hm := Inp.m3 hI
  have hlt : ∀ k, k ≤ 17 → b2 b k < w.heap.size := by
    intro k hk
    have hL : ∀ k, k ≤ 17 → (k = 7 ∨ k = 8 ∨ k = 9 ∨ k = 10) ∨ k ∈ LL := by
      intro k hk
      simp only [LL, List.mem_cons, List.not_mem_nil, or_false]
      omega
    unfold b2
    by_cases e : k = 7 ∨ k = 8 ∨ k = 9 ∨ k = 10
    · rw [if_pos e]; exact h.lt (by decide)
    · rw [if_neg e]
      rcases hL k hk with h1 | h1
      · exact absurd h1 e
      · exact h.lt h1
  refine ⟨⟨h.lt (by decide), hlt⟩, hI.v3, hm.1, hI.r3, h.solv 0, h.solv 1, h.solv 2, h.solv 3, h.solv 4, h.solv 5, h.solv 6, h.solv 7, h.solv 11, h.solv 12, h.solv 13, h.solv 14, h.solv 15, h.solv 16, ?_, ?_, ?_, ?_⟩
  · intro j hj
    obtain ⟨_, q1, q2, q3⟩ := hI.vs.bd j hj
    exact ⟨h.got (k := 1) (by decide) hj hj, Nat.mod_lt _ hm.2, h.got (k := 2) (by decide) hj hj, h.got (k := 11) (by decide) hj hj, h.got (k := 12) (by decide) hj hj, q1, q2, q3⟩
  · intro i hi
    obtain ⟨q1, q2, q3, q4, q5⟩ := us_b8 hI i hi
    exact ⟨h.got (k := 5) (by decide) hi hi, h.got (k := 6) (by decide) hi hi, h.got (k := 15) (by decide) hi hi, h.got (k := 16) (by decide) hi hi, h.got (k := 17) (by decide) hi hi, q1, q2, q3, q4, q5⟩
  · intro k hk
    obtain ⟨q1, q2⟩ := hI.rs.bd k hk
    exact ⟨h.got (k := 13) (by decide) hk hk, h.got (k := 14) (by decide) hk hk, q1, q2⟩
  · obtain ⟨c, hc⟩ := h
    have c3 : ∀ j, w.cell? ⟨b 3, j, none⟩ = (c 3)[j]? := fun j => hc.mem.cell (k := 3) (by decide) j
    by_cases h0 : I.nr = 0
    · have e0 : ∀ j, (dat I).el j = 0 := fun j => if_pos h0
      refine ⟨fun j hj => ⟨none, ?_, fun e he => ?_⟩, fun j hj e he => ?_, fun j hj e he => ?_, fun j hj => ?_⟩
      · show w.cell? ⟨b 3, j, none⟩ = _
        rw [c3, hc.col0 h0, e0]
        have hj' : j < I.nv := hj
        simp [hj']
      · rw [e0] at he; exact absurd he (Nat.not_lt_zero _)
      · rw [e0] at he; exact absurd he (Nat.not_lt_zero _)
      · rw [e0] at he; exact absurd he (Nat.not_lt_zero _)
      · rw [e0]; exact Nat.zero_le _
    · have e0 : ∀ j, (dat I).el j = (I.V j).el := fun j => if_neg h0
      refine ⟨fun j hj => ?_, fun j hj e he => ?_, fun j hj e he => ?_, fun j hj => ?_⟩
      · obtain ⟨a, ca, ha⟩ := hc.col (by omega) j hj hj
        refine ⟨a, ?_, fun e he => ?_⟩
        · show w.cell? ⟨b 3, j, none⟩ = _
          rw [c3, e0]; exact ca
        · rw [e0] at he
          obtain ⟨g, eg, hB⟩ := ha (by omega)
          refine ⟨g, eg, hB.lt, fun e' he' => ?_⟩
          rw [e0] at he'
          rw [hB.cell, hB.cell, eCells_get I j _ _ (by omega), eCells_get I j _ _ (by omega), eVal_even, eVal_odd]
          exact ⟨rfl, rfl⟩
      · exact Nat.mod_lt _ (by show 0 < I.nr; omega)
      · rw [e0] at he
        exact ((hI.vs.ents j hj).bd e he).2
      · rw [e0]; exact hE j hj

/-- The world behind 'residuals'. -/
structure FW (I : Inp) (b r : Nat → Nat) (bR : Nat) (w : World) : Prop where
  bld : Bld I b w I.nv (cntOf I.nv I.m I.nr)
  lt : bR < w.heap.size ∧ r 20 < w.heap.size ∧ r 21 < w.heap.size ∧ r 22 < w.heap.size ∧ r 23 < w.heap.size
  v0 : w.cell? ⟨bR, 0, none⟩ = some (.slice (some ⟨r 20, 0, none⟩) I.nv I.nv)
  v1 : w.cell? ⟨bR, 1, none⟩ = some (.slice (some ⟨r 21, 0, none⟩) I.nv I.nv)
  v2 : w.cell? ⟨bR, 2, none⟩ = some (.slice (some ⟨r 22, 0, none⟩) I.nr I.nr)
  v3 : w.cell? ⟨bR, 3, none⟩ = some (.slice (some ⟨r 23, 0, none⟩) I.m I.m)
  rd : ∀ j, j < I.nv → ∃ x, w.cell? ⟨r 20, j, none⟩ = some (.float .f64 x) ∧ RdR (dat I) j x
  sc : ∀ j, j < I.nv → ∃ x, w.cell? ⟨r 21, j, none⟩ = some (.float .f64 x) ∧ ScR (dat I) j x
  rp : ∀ k, k < I.nr → w.cell? ⟨r 22, k, none⟩ = some (.float .f64 (rpOf (dat I) k))
  rc : ∀ i, i < I.m → w.cell? ⟨r 23, i, none⟩ = some (.float .f64 (rcOf (dat I) i))
theorem FW.below {I : Inp} {b r : Nat → Nat} {bR : Nat} {w w' : World} (h : FW I b r bR w) (hb : Below w.heap.size w w') : FW I b r bR w' := by
  obtain ⟨l0, l1, l2, l3, l4⟩ := h.lt
  have hs := hb.size
  refine ⟨h.bld.below hb, ⟨by omega, by omega, by omega, by omega, by omega⟩, ?_, ?_, ?_, ?_, fun j hj => ?_, fun j hj => ?_, fun k hk => ?_, fun i hi => ?_⟩
  · rw [hb.cell (p := ⟨bR, 0, none⟩) l0]; exact h.v0
  · rw [hb.cell (p := ⟨bR, 1, none⟩) l0]; exact h.v1
  · rw [hb.cell (p := ⟨bR, 2, none⟩) l0]; exact h.v2
  · rw [hb.cell (p := ⟨bR, 3, none⟩) l0]; exact h.v3
  · rw [hb.cell (p := ⟨r 20, j, none⟩) l1]; exact h.rd j hj
  · rw [hb.cell (p := ⟨r 21, j, none⟩) l2]; exact h.sc j hj
  · rw [hb.cell (p := ⟨r 22, k, none⟩) l3]; exact h.rp k hk
  · rw [hb.cell (p := ⟨r 23, i, none⟩) l4]; exact h.rc i hi
/-- The slots from there on. -/
structure BaseR (I : Inp) (b : Nat → Nat) (bR : Nat) (g : Nat → Value) : Prop where
  base : Base I b g
  s25 : g 25 = .pointer (some ⟨bR, 0, none⟩)

theorem fw_of {I : Inp} {b r : Nat → Nat} {c : Nat → List Value} {w w' : World} (hB : Bld I b w I.nv (cntOf I.nv I.m I.nr)) (hM : Mem [20, 21, 22, 23] r c w w') (h0 : RowP I.nv (RdR (dat I)) (c 20)) (h1 : RowP I.nv (ScR (dat I)) (c 21)) (h2 : RowP I.nr (fun k x => x = rpOf (dat I) k) (c 22)) (h3 : RowP I.m (fun i x => x = rcOf (dat I) i) (c 23)) :
    FW I b r w'.heap.size (w'.alloc (.cells #[.slice (some ⟨r 20, 0, none⟩) I.nv I.nv, .slice (some ⟨r 21, 0, none⟩) I.nv I.nv, .slice (some ⟨r 22, 0, none⟩) I.nr I.nr, .slice (some ⟨r 23, 0, none⟩) I.m I.m] 51)) := by
  have hN := blk_new w' #[.slice (some ⟨r 20, 0, none⟩) I.nv I.nv, .slice (some ⟨r 21, 0, none⟩) I.nv I.nv, .slice (some ⟨r 22, 0, none⟩) I.nr I.nr, .slice (some ⟨r 23, 0, none⟩) I.m I.m] 51
  have hM' := hM.alloc (.cells #[.slice (some ⟨r 20, 0, none⟩) I.nv I.nv, .slice (some ⟨r 21, 0, none⟩) I.nv I.nv, .slice (some ⟨r 22, 0, none⟩) I.nr I.nr, .slice (some ⟨r 23, 0, none⟩) I.m I.m] 51)
  refine ⟨hB.below hM'.bel, ⟨hN.lt, hM'.lt (by decide), hM'.lt (by decide), hM'.lt (by decide), hM'.lt (by decide)⟩, hN.cell 0, hN.cell 1, hN.cell 2, hN.cell 3, fun j hj => ?_, fun j hj => ?_, fun k hk => ?_, fun i hi => ?_⟩
  · rw [hM'.cell (by decide)]; exact h0.get j hj
  · rw [hM'.cell (by decide)]; exact h1.get j hj
  · rw [hM'.cell (by decide)]
    obtain ⟨x, e, hx⟩ := h2.get k hk
    rw [e, hx]
  · rw [hM'.cell (by decide)]
    obtain ⟨x, e, hx⟩ := h3.get i hi
    rw [e, hx]
end Go.Proofs.Ybulkbyna

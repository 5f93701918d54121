/- slices.Grow at []int (on a row of the call's own) and at []uint64 (on nil). -/
import Derived.Test.YbulkbykwMach
import Derived.Lib.AppendZerosOnto
namespace Go.Proofs.Ybulkbykw
open Go.ChangeShapes Go.WideShapes Go.ChangeAt Go.RowKit
set_option linter.unusedVariables false

theorem info36 : (Yba.prog.info? 36).map (fun i => (i.zero, i.size, i.bytes)) = some (some (.int .u64 0), 1, 8) := by kernel_rfl

/-- Where there is room: nothing is made. -/
theorem grow_room (ao : Option Addr) (n cap k : Nat) (w : World) (hc : cap ≤ maxLen) (hk : k ≤ 4096) (hroom : n + k ≤ cap) :
    Calls Yba.prog 19 #[.slice ao n cap, .int .i64 k] w fun e w' => e = .returned (.slice ao n cap) ∧ w' = w := by
  unfold maxLen at hc
  go_enter Yba.func19, Yba.ntmps19
  go_wp2
  go_ret
  exact ⟨rfl, rfl⟩

/-- Where there is none: a new row. -/
theorem grow_none (B : Nat) (ao : Option Addr) (n cap k : Nat) (ys : List Value) (w : World) (hown : w.ownsRow B 3 1 (.slice ao n cap) n ys) (hB : B ≤ w.heap.size) (hk : k ≤ 4096) (hn : n ≤ 1048576) (hnc : n ≤ cap) (hroom : cap < n + k) :
    Calls Yba.prog 19 #[.slice ao n cap, .int .i64 k] w fun e w' => ∃ cap', n + k ≤ cap' ∧ e = .returned (.slice (some ⟨w.heap.size, 0, none⟩) n cap') ∧ w'.ownsRow B 3 1 (.slice (some ⟨w.heap.size, 0, none⟩) n cap') n ys ∧ w.grownBy w' none := by
  obtain ⟨i0, hi, hz0, hz1, hz2⟩ := info_parts info3
  -- the full row's cells
  obtain ⟨olds, hol, hold⟩ : ∃ olds : List Value, olds.length = cap ∧ (Builtin.firstCells i0.size cap (.slice ao cap cap)).run Yba.prog w.drew = .ok olds.toArray w.drew ∧ olds.take n = ys := by
    rw [hz1]
    rcases hown.2 with ⟨h1, h2⟩ | ⟨g, c, cur, hv, hb, hg, h3, h4, h5, h6⟩
    · cases h1
      have : ys = [] := List.eq_nil_of_length_eq_zero (by simpa using hown.1)
      exact ⟨[], rfl, by simp [Builtin.firstCells], by simp [this]⟩
    · cases hv
      refine ⟨cur.toList, by simpa using h5, ?_, by simpa using h6⟩
      exact run_firstCells_some (P := Yba.prog) w.drew 1 cap ⟨g, 0, none⟩ cap cap cur.toList (by simpa using h5) (fun j v hj => by
        rw [Addr.add_lit]
        show w.cell? ⟨g, 0 + j, none⟩ = some v
        rw [cell_of_row w g (0 + j) cur 3 (0, 0) hg]
        simpa using hj)
  obtain ⟨hold, htake⟩ := hold
  have hr := Lib.run_append_grow_zeros (P := Yba.prog) w 23 3 23 3 i0 (.int .i64 0) .i64 .i64 Yba.underlying23 Yba.underlying3 hi hz0 ao cap cap olds hold (n + k - cap) (by omega) (by omega) (by omega) (by omega) (by rw [hz2]; omega)
    (by rw [hz2]; exact growslice_fits (by omega) (by omega))
  have hcap : Hid (n + k ≤ grownCap w (cap + (n + k - cap)) cap 3) := by
    have := grownCap_ge w (cap + (n + k - cap)) cap 3
    unfold Hid; omega
  have hcm : Hid (grownCap w (cap + (n + k - cap)) cap 3 ≤ maxLen) := grownCap_le_maxLen w _ cap 3 (by unfold maxLen; omega)
  generalize grownCap w (cap + (n + k - cap)) cap 3 = C at *
  have hr' : Hid (∀ q : Int, q = ((n + k - cap : Nat) : Int) → (Builtin.append_ #[23, 3] 23 #[.slice ao cap cap, .int .i64 q]).run Yba.prog w = .ok (.slice (some ⟨w.heap.size, 0, none⟩) (cap + (n + k - cap)) C) (w.drew.alloc (.cells (olds.toArray ++ Builtin.zeroCells (Value.int .i64 0).cells (n + k - cap) ++ Builtin.zeroCells (Value.int .i64 0).cells (C - (cap + (n + k - cap)))) 3))) := by
    rintro q rfl; exact hr
  have hC1 : n + k ≤ C := hcap.out
  have hC2 : C ≤ 9223372036854775807 := by have := hcm.out; unfold maxLen at this; omega
  have hown' : Hid (w.ownsRow B 3 1 (.slice ao n cap) n ys) := hown
  have htk : Hid (olds.length = cap ∧ olds.take n = ys) := ⟨hol, htake⟩
  clear hr hcap hold htake hol hown
  have b1 : (n : Int) ≤ (cap : Int) := by omega
  have b2 : (cap : Int) < (n : Int) + (k : Int) := by omega
  go_enter Yba.func19, Yba.ntmps19
  go_wp2_with (at_builtin; refine Lib.wpList_append_run _ rfl (.tmp 20) (.tmp 21) 23 3 rfl _ _ rfl rfl _ _ (hr'.out _ (by omega)) ?_)
  go_ret
  refine ⟨C, hC1, rfl, ⟨by have := hown'.out.1; omega, .inr ⟨w.heap.size, C, _, rfl, hB, heap_alloc_new w.drew _, by omega, hcm.out, ?_, ?_⟩⟩, ⟨rfl, rfl, rfl, by simp, fun k hk _ => Below.heap_alloc w.drew _ k hk⟩⟩
  · simp [size_zeroCells, htk.out.1]
    omega
  · rw [← htk.out.2]
    simp only [Array.toList_append, Nat.mul_one]
    rw [List.take_append_of_le_length (by simp [htk.out.1]; omega)]

/-- Either way: room for k more behind n, the first n cells as they were; the row where it was, or new. -/
theorem grow_any (B : Nat) (ao : Option Addr) (n cap k : Nat) (ys : List Value) (w : World) (hown : w.ownsRow B 3 1 (.slice ao n cap) n ys) (hB : B ≤ w.heap.size) (hk0 : 0 < k) (hk : k ≤ 4096) (hn : n ≤ 1048576) :
    Calls Yba.prog 19 #[.slice ao n cap, .int .i64 k] w fun e w' => ∃ g cap', n + k ≤ cap' ∧ cap' ≤ maxLen ∧ e = .returned (.slice (some ⟨g, 0, none⟩) n cap') ∧ w'.ownsRow B 3 1 (.slice (some ⟨g, 0, none⟩) n cap') n ys ∧ w.grownBy w' none ∧ ((Value.slice ao n cap).ownBlock = some g ∨ g = w.heap.size) := by
  have hnc : n ≤ cap ∧ cap ≤ maxLen ∧ (n + k ≤ cap → ∃ g, ao = some ⟨g, 0, none⟩) := by
    rcases hown.2 with ⟨h1, h2⟩ | ⟨g, c, cur, hv, hb, hg, h3, h4, h5, h6⟩
    · cases h1; exact ⟨by omega, by unfold maxLen; omega, fun h => by omega⟩
    · cases hv; exact ⟨h3, h4, fun _ => ⟨g, rfl⟩⟩
  by_cases hroom : n + k ≤ cap
  · obtain ⟨g, rfl⟩ := hnc.2.2 hroom
    refine (grow_room _ n cap k w hnc.2.1 hk hroom).mono ?_
    rintro e w' ⟨rfl, rfl⟩
    exact ⟨g, cap, hroom, hnc.2.1, rfl, hown, World.grownBy.refl _ _, .inl rfl⟩
  · refine (grow_none B ao n cap k ys w hown hB hk hn hnc.1 (by omega)).mono ?_
    rintro e w' ⟨cap', h1, rfl, h2, h3⟩
    refine ⟨w.heap.size, cap', h1, ?_, rfl, h2, h3, .inr rfl⟩
    rcases h2.2 with ⟨h, _⟩ | ⟨g, c, cur, hv, hb, hg, h3, h4, _⟩
    · cases h
    · cases hv; exact h4

/-- slices.Grow([]uint64(nil), k). -/
theorem grow_u64 (k : Nat) (w : World) (hk : k ≤ 4096) :
    Calls Yba.prog 13 #[.slice none 0 0, .int .i64 k] w fun e w' => ∃ ao cap, k ≤ cap ∧ cap ≤ 9223372036854775807 ∧ (ao = none → cap = 0) ∧ e = .returned (.slice ao 0 cap) ∧ w.grownBy w' none := by
  by_cases h0 : k = 0
  · subst h0
    go_enter Yba.func13, Yba.ntmps13
    go_wp2
    go_ret
    exact ⟨none, 0, by omega, by omega, fun _ => rfl, rfl, World.grownBy.refl _ _⟩
  · obtain ⟨i0, hi, hz0, hz1, hz2⟩ := info_parts info36
    have hr := Lib.run_append_nil_zeros (P := Yba.prog) w 35 3 35 36 i0 (.int .u64 0) .i64 .i64 Yba.underlying35 Yba.underlying3 hi hz0 k (by omega) (by omega) (by omega) (by rw [hz2]; omega)
    have hC1 := grownCap_ge w k 0 36
    have hC2 := grownCap_le_maxLen w k 0 36 (by unfold maxLen; omega)
    unfold maxLen at hC2
    generalize grownCap w k 0 36 = C at *
    have hr' : Hid (∀ q : Int, q = ((k : Nat) : Int) → (Builtin.append_ #[35, 3] 35 #[.slice none 0 0, .int .i64 q]).run Yba.prog w = .ok (.slice (some ⟨w.heap.size, 0, none⟩) k C) (w.drew.alloc (.cells (Builtin.zeroCells (Value.int .u64 0).cells k ++ Builtin.zeroCells (Value.int .u64 0).cells (C - k)) 36))) := by
      rintro q rfl; exact hr
    clear hr
    have hC3 : C ≤ 9223372036854775807 := by omega
    clear hC2
    go_enter Yba.func13, Yba.ntmps13
    go_wp2_with (at_builtin; refine Lib.wpList_append_run _ rfl (.tmp 20) (.tmp 21) 35 3 rfl _ _ rfl rfl _ _ (hr'.out _ (by omega)) ?_)
    go_ret
    exact ⟨_, C, hC1, hC3, fun h => (by cases h), rfl, ⟨rfl, rfl, rfl, by simp, fun k hk _ => Below.heap_alloc w.drew _ k hk⟩⟩
end Go.Proofs.Ybulkbykw

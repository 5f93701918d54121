/- The law's beginning: its bounds, the users' row. -/
import Derived.Test.YbulkbynaLawB
import Derived.Test.YbulkbynaOrderL
namespace Go.Proofs.Ybulkbyna
open Go.ChangeShapes Go.WideShapes Go.ChangeAt Go.RowKit
set_option linter.unusedVariables false
set_option linter.unusedSimpArgs false

/-- What is to come out. -/
def RQ (I : Inp) : Ending → World → Prop := fun e w' => e = .returned (.bool true) ∧ Below I.w0.heap.size I.w0 w'
structure S3 (I : Inp) (g : Nat → Value) (w : World) : Prop where
  bel : Below I.w0.heap.size I.w0 w
  s0 : g 0 = .slice I.av I.nv I.cv
  s1 : g 1 = .slice I.au I.nu I.cu
  s2 : g 2 = .slice I.ar I.nr I.cr

set_option maxRecDepth 1000000 in
set_option maxHeartbeats 4000000 in
theorem it0 {I : Inp} {g : Nat → Value} {w : World} (h : S3 I g w) (Rq : Ending → World → Prop) : (item 0).wp Yba.prog (Exit.then (Mid (S3 I)) (bodyPost Yba.prog Yba.f3 Rq)) (Fr g) w := by
  rw [Fr_lit, h.s0, h.s1, h.s2]
  have HB : Hid (Below I.w0.heap.size I.w0 w) := h.bel
  clear h
  conv => arg 2; whnf
  go_wp2
  refine mid_intro (by kernel_rfl) ⟨HB.out, by kernel_rfl, by kernel_rfl, by kernel_rfl⟩

set_option maxRecDepth 1000000 in
set_option maxHeartbeats 4000000 in
theorem it1 {I : Inp} {g : Nat → Value} {w : World} (hI : I.Ok) (h : S3 I g w) (Rq : Ending → World → Prop) : (item 1).wp Yba.prog (Exit.then (Mid (S3 I)) (bodyPost Yba.prog Yba.f3 Rq)) (Fr g) w := by
  have d1 : decide (300 < (I.nv : Int)) = false := by have := hI.v3; simp; omega
  have d2 : decide (300 < (I.nu : Int)) = false := by have := hI.u3; simp; omega
  have d3 : decide (300 < (I.nr : Int)) = false := by have := hI.r3; simp; omega
  rw [Fr_lit, h.s0, h.s1, h.s2]
  have HB : Hid (Below I.w0.heap.size I.w0 w) := h.bel
  clear h hI
  conv => arg 2; whnf
  go_wp2
  refine mid_intro (by kernel_rfl) ⟨HB.out, by kernel_rfl, by kernel_rfl, by kernel_rfl⟩

set_option maxRecDepth 1000000 in
set_option maxHeartbeats 4000000 in
theorem it2 {I : Inp} {g : Nat → Value} {w : World} (hI : I.Ok) (h : S3 I g w) : (item 2).wp Yba.prog (Exit.then (Mid (fun g' w' => S3 I g' w' ∧ ∀ j, j < I.nv → (I.V j).el ≤ 300)) (bodyPost Yba.prog Yba.f3 (RQ I))) (Fr g) w := by
  rw [Fr_lit, h.s0, h.s1, h.s2]
  have HB : Hid (Below I.w0.heap.size I.w0 w) := h.bel
  have HI : Hid I.Ok := hI
  have hv3 := hI.v3
  clear h hI
  conv => arg 2; whnf
  go_wp2_with fail
  go_loopw [65] (fun i wr => ∃ j : Nat, j ≤ I.nv ∧ i = .int .i64 j ∧ Hid (Below I.w0.heap.size I.w0 wr ∧ ∀ j', j' < j → (I.V j').el ≤ 300)) (fun i _ => I.nv - (intOf i).toNat)
  case atStart => exact ⟨0, by omega, rfl, HB.out, fun _ h => absurd h (Nat.not_lt_zero _)⟩
  case round =>
    clear HB
    obtain ⟨j, hj, rfl, HJ⟩ := hrel
    obtain ⟨w1, hw1⟩ : ∃ w1, w1 = wr := ⟨_, rfl⟩
    subst hw1
    by_cases hjn : j < I.nv
    · obtain ⟨bv, ov, hav, hbv, hcv⟩ := HI.out.vs.cells j hjn
      obtain ⟨c0, c1, c2, c3, c4⟩ := hcv j hjn
      rw [← HJ.out.1.cell (p := ⟨bv, ov + j * 5, none⟩) hbv] at c0
      rw [← HJ.out.1.cell (p := ⟨bv, ov + j * 5 + 1, none⟩) hbv] at c1
      rw [← HJ.out.1.cell (p := ⟨bv, ov + j * 5 + 2, none⟩) hbv] at c2
      rw [← HJ.out.1.cell (p := ⟨bv, ov + j * 5 + 3, none⟩) hbv] at c3
      rw [← HJ.out.1.cell (p := ⟨bv, ov + j * 5 + 4, none⟩) hbv] at c4
      clear hcv
      rw [hav]
      by_cases he : (I.V j).el ≤ 300
      · have d1 : decide (300 < ((I.V j).el : Int)) = false := by simp; omega
        go_wp2
        exact ⟨⟨j + 1, by omega, by go_num, HJ.out.1.alloc HJ.out.1.size _, fun j' h => by
          by_cases e : j' = j
          · subst e; exact he
          · exact HJ.out.2 j' (by omega)⟩, by simp [intOf]; omega⟩
      · have d1 : decide (300 < ((I.V j).el : Int)) = true := by simp; omega
        go_wp2
        go_ret
        exact ⟨rfl, HJ.out.1.alloc HJ.out.1.size _⟩
    · obtain rfl : j = I.nv := by omega
      go_wp2
      refine mid_intro (by kernel_rfl) ⟨⟨HJ.out.1, by kernel_rfl, by kernel_rfl, by kernel_rfl⟩, HJ.out.2⟩

set_option maxRecDepth 1000000 in
set_option maxHeartbeats 4000000 in
theorem it3 {I : Inp} {g : Nat → Value} {w : World} (h : S3 I g w) (Rq : Ending → World → Prop) : (item 3).wp Yba.prog (Exit.then (Mid (fun g' w' => S3 I g' w' ∧ g' 9 = .int .i64 I.nu)) (bodyPost Yba.prog Yba.f3 Rq)) (Fr g) w := by
  rw [Fr_lit, h.s0, h.s1, h.s2]
  have HB : Hid (Below I.w0.heap.size I.w0 w) := h.bel
  clear h
  conv => arg 2; whnf
  go_wp2
  refine mid_intro (by kernel_rfl) ⟨⟨HB.out, by kernel_rfl, by kernel_rfl, by kernel_rfl⟩, by kernel_rfl⟩

set_option maxRecDepth 1000000 in
set_option maxHeartbeats 4000000 in
theorem it4 {I : Inp} {g : Nat → Value} {w : World} (h : S3 I g w) (h9 : g 9 = .int .i64 I.nu) (Rq : Ending → World → Prop) : (item 4).wp Yba.prog (Exit.then (Mid (fun g' w' => S3 I g' w' ∧ g' 9 = .int .i64 I.m)) (bodyPost Yba.prog Yba.f3 Rq)) (Fr g) w := by
  rw [Fr_lit, h.s0, h.s1, h.s2, h9]
  have HB : Hid (Below I.w0.heap.size I.w0 w) := h.bel
  clear h h9
  conv => arg 2; whnf
  by_cases h0 : I.nu = 0
  · have e1 : ((I.nu : Int) == 0) = true := by simp [h0]
    have e2 : Hid (I.m = 1) := (by unfold Inp.m num; simp [h0] : I.m = 1)
    clear h0
    go_wp2
    refine mid_intro (by kernel_rfl) ⟨⟨HB.out, by kernel_rfl, by kernel_rfl, by kernel_rfl⟩, ?_⟩
    rw [e2.out]
    kernel_rfl
  · have e1 : ((I.nu : Int) == 0) = false := by simp [h0]
    have e2 : Hid (I.m = I.nu) := (by unfold Inp.m num; simp [h0] : I.m = I.nu)
    clear h0
    go_wp2
    refine mid_intro (by kernel_rfl) ⟨⟨HB.out, by kernel_rfl, by kernel_rfl, by kernel_rfl⟩, ?_⟩
    rw [e2.out]
    kernel_rfl
/-- The users' row. -/
structure PU (I : Inp) (b0 : Nat) (xs : List Value) (g : Nat → Value) (w : World) : Prop where
  blk : Blk w b0 30 xs
  base : I.w0.heap.size ≤ b0
  bel : Below I.w0.heap.size I.w0 w
  s0 : g 0 = .slice I.av I.nv I.cv
  s1 : g 1 = .slice I.au I.nu I.cu
  s2 : g 2 = .slice I.ar I.nr I.cr
  s9 : g 9 = .int .i64 I.m
  s10 : g 10 = .slice (some ⟨b0, 0, none⟩) I.m I.m
def zUsers (n : Nat) : List Value := (madeCells (Value.agg #[.int .i8 0, .int .i8 0, .int .i8 0, .int .i8 0, .int .i8 0, .bool false]).cells (n * 6)).toList

set_option maxRecDepth 1000000 in
set_option maxHeartbeats 4000000 in
theorem it5 {I : Inp} {g : Nat → Value} {w : World} (hI : I.Ok) (h : S3 I g w) (h9 : g 9 = .int .i64 I.m) (Rq : Ending → World → Prop) : (item 5).wp Yba.prog (Exit.then (Mid (fun g' w' => ∃ b0, PU I b0 (zUsers I.m) g' w')) (bodyPost Yba.prog Yba.f3 Rq)) (Fr g) w := by
  obtain ⟨i30, hi, hz0, hz1, hz2⟩ := info_parts info30
  have hm3 := (Inp.m3 hI).1
  have hb2 : i30.bytes * I.m ≤ 281474976710656 := by rw [hz2]; omega
  have hb3 : I.m ≤ maxLen := by unfold maxLen; omega
  have hsz := h.bel.size
  rw [Fr_lit, h.s0, h.s1, h.s2, h9]
  have HB : Hid (Below I.w0.heap.size I.w0 w) := h.bel
  clear h h9 hI
  conv => arg 2; whnf
  go_wp2_with (at_make; refine wpList_make_full _ rfl (.tmp 78) (.tmp 78) 23 rfl I.w0.heap.size 30 i30 _ 6 Yba.underlying23 hi hz0 hz1 _ _ _ _ I.m rfl rfl rfl rfl hb2 hb3 hsz ?_; intro w1 ho1 hg1; have hQ1 := Blk.made ho1; have hB1 : Below I.w0.heap.size I.w0 w1 := HB.out.grown hg1 hsz (fun k h => by cases h))
  refine mid_intro (by kernel_rfl) ⟨w.heap.size, hQ1.1, hQ1.2, hB1, by kernel_rfl, by kernel_rfl, by kernel_rfl, by kernel_rfl, by kernel_rfl⟩

set_option maxRecDepth 1000000 in
set_option maxHeartbeats 4000000 in
theorem it6 {I : Inp} {g : Nat → Value} {w : World} {b0 : Nat} (hI : I.Ok) (h : PU I b0 (zUsers I.m) g w) (Rq : Ending → World → Prop) : (item 6).wp Yba.prog (Exit.then (Mid (fun g' w' => PU I b0 (if I.nu = 0 then zUsers I.m else uCells I.U I.nu) g' w')) (bodyPost Yba.prog Yba.f3 Rq)) (Fr g) w := by
  obtain ⟨xs, hxs⟩ : ∃ xs, xs = (if I.nu = 0 then zUsers I.m else uCells I.U I.nu) := ⟨_, rfl⟩
  obtain ⟨w2, hrun, hB2, hQ2⟩ := copy_users (cu := I.cu) hI.us h.bel h.blk (by unfold zUsers; simp [madeCells, Inp.m]) h.base
  rw [Fr_lit, h.s0, h.s1, h.s2, h.s9, h.s10]
  rw [← hxs] at hQ2 ⊢
  have HB : Hid (Below I.w0.heap.size I.w0 w2 ∧ Blk w2 b0 30 xs ∧ I.w0.heap.size ≤ b0) := ⟨hB2, hQ2, h.base⟩
  clear hxs
  have hrun' : ∀ ty, (Builtin.copy_ #[23, 23] ty #[.slice (some ⟨b0, 0, none⟩) I.m I.m, .slice I.au I.nu I.cu]).run Yba.prog w = .ok (.int .i64 I.nu) w2 := hrun
  clear h hI hB2 hQ2 hrun
  conv => arg 2; whnf
  go_wp2
  refine mid_intro (by kernel_rfl) ⟨HB.out.2.1, HB.out.2.2, HB.out.1, by kernel_rfl, by kernel_rfl, by kernel_rfl, by kernel_rfl, by kernel_rfl⟩

set_option maxRecDepth 1000000 in
set_option maxHeartbeats 4000000 in
theorem it7 {I : Inp} {g : Nat → Value} {w : World} {b0 : Nat} (h : PU I b0 (if I.nu = 0 then zUsers I.m else uCells I.U I.nu) g w) (Rq : Ending → World → Prop) : (item 7).wp Yba.prog (Exit.then (Mid (PU I b0 (uCells I.us I.m))) (bodyPost Yba.prog Yba.f3 Rq)) (Fr g) w := by
  rw [Fr_lit, h.s0, h.s1, h.s2, h.s9, h.s10]
  by_cases h0 : I.nu = 0
  · have e1 : ((I.nu : Int) == 0) = true := by simp [h0]
    have em : I.m = 1 := by unfold Inp.m num; simp [h0]
    have hk := h.blk
    rw [if_pos h0, em] at hk
    rw [show zUsers 1 = [.int .i8 0, .int .i8 0, .int .i8 0, .int .i8 0, .int .i8 0, .bool false] by kernel_rfl] at hk
    have hk' : Blk w b0 30 [.int .i8 0, .int .i8 0, .int .i8 0, .int .i8 0, .int .i8 0, .bool false] := hk
    have eU : Hid (uCells I.us I.m = [.int .i8 1, .int .i8 1, .int .i8 0, .int .i8 0, .int .i8 0, .bool false]) := by
      have : I.us = fun _ => noUser := by unfold Inp.us usr; rw [if_pos h0]
      rw [this, em]
      show uCells (fun _ => noUser) 1 = _
      kernel_rfl
    have HK : Hid (Blk w b0 30 [.int .i8 0, .int .i8 0, .int .i8 0, .int .i8 0, .int .i8 0, .bool false] ∧ I.w0.heap.size ≤ b0 ∧ Below I.w0.heap.size I.w0 w) := ⟨hk', h.base, h.bel⟩
    have c0 : w.cell? ⟨b0, 0, none⟩ = some (.int .i8 0) := hk'.cell 0
    have c1 : w.cell? ⟨b0, 1, none⟩ = some (.int .i8 0) := hk'.cell 1
    have c2 : w.cell? ⟨b0, 2, none⟩ = some (.int .i8 0) := hk'.cell 2
    have c3 : w.cell? ⟨b0, 3, none⟩ = some (.int .i8 0) := hk'.cell 3
    have c4 : w.cell? ⟨b0, 4, none⟩ = some (.int .i8 0) := hk'.cell 4
    have c5 : w.cell? ⟨b0, 5, none⟩ = some (.bool false) := hk'.cell 5
    have f0 := hk'.frozen 0
    have f1 := hk'.frozen 1
    have f2 := hk'.frozen 2
    have f3 := hk'.frozen 3
    have f4 := hk'.frozen 4
    have f5 := hk'.frozen 5
    have hl := hk'.lt
    have hm0 : 0 < I.m := by omega
    clear h hk hk' em h0
    conv => arg 2; whnf
    go_wp2
    refine mid_intro (by kernel_rfl) ⟨?_, HK.out.2.1, ?_, by kernel_rfl, by kernel_rfl, by kernel_rfl, by kernel_rfl, by kernel_rfl⟩
    · rw [eU.out]
      exact (((((HK.out.1.set 0 (.int .i8 1)).set 1 (.int .i8 1)).set 2 (.int .i8 0)).set 3 (.int .i8 0)).set 4 (.int .i8 0)).set 5 (.bool false)
    · exact (((((HK.out.2.2.setCell (p := ⟨b0, 0, none⟩) HK.out.2.1 _).setCell (p := ⟨b0, 1, none⟩) HK.out.2.1 _).setCell (p := ⟨b0, 2, none⟩) HK.out.2.1 _).setCell (p := ⟨b0, 3, none⟩) HK.out.2.1 _).setCell (p := ⟨b0, 4, none⟩) HK.out.2.1 _).setCell (p := ⟨b0, 5, none⟩) HK.out.2.1 _
  · have e1 : ((I.nu : Int) == 0) = false := by simp [h0]
    have eU : uCells I.us I.m = uCells I.U I.nu := by unfold Inp.us usr Inp.m num; rw [if_neg h0, if_neg h0]
    have hk := h.blk
    rw [if_neg h0, ← eU] at hk
    have HK : Hid (Blk w b0 30 (uCells I.us I.m) ∧ I.w0.heap.size ≤ b0 ∧ Below I.w0.heap.size I.w0 w) := ⟨hk, h.base, h.bel⟩
    clear h hk eU h0
    conv => arg 2; whnf
    go_wp2
    refine mid_intro (by kernel_rfl) ⟨HK.out.1, HK.out.2.1, HK.out.2.2, by kernel_rfl, by kernel_rfl, by kernel_rfl, by kernel_rfl, by kernel_rfl⟩

set_option maxRecDepth 1000000 in
set_option maxHeartbeats 4000000 in
theorem it8 {I : Inp} {g : Nat → Value} {w : World} {b0 : Nat} (h : PU I b0 (uCells I.us I.m) g w) (Rq : Ending → World → Prop) : (item 8).wp Yba.prog (Exit.then (Mid (fun g' w' => PU I b0 (uCells I.us I.m) g' w' ∧ g' 11 = .int .i64 I.nv)) (bodyPost Yba.prog Yba.f3 Rq)) (Fr g) w := by
  rw [Fr_lit, h.s0, h.s1, h.s2, h.s9, h.s10]
  have HK : Hid (Blk w b0 30 (uCells I.us I.m) ∧ I.w0.heap.size ≤ b0 ∧ Below I.w0.heap.size I.w0 w) := ⟨h.blk, h.base, h.bel⟩
  clear h
  conv => arg 2; whnf
  go_wp2
  refine mid_intro (by kernel_rfl) ⟨⟨HK.out.1, HK.out.2.1, HK.out.2.2, by kernel_rfl, by kernel_rfl, by kernel_rfl, by kernel_rfl, by kernel_rfl⟩, by kernel_rfl⟩

set_option maxRecDepth 1000000 in
set_option maxHeartbeats 4000000 in
theorem it9 {I : Inp} {g : Nat → Value} {w : World} {b0 : Nat} (h : PU I b0 (uCells I.us I.m) g w) (h11 : g 11 = .int .i64 I.nv) (Rq : Ending → World → Prop) : (item 9).wp Yba.prog (Exit.then (Mid (P10 I b0)) (bodyPost Yba.prog Yba.f3 Rq)) (Fr g) w := by
  rw [Fr_lit, h.s0, h.s1, h.s2, h.s9, h.s10, h11]
  have HK : Hid (Blk w b0 30 (uCells I.us I.m) ∧ I.w0.heap.size ≤ b0 ∧ Below I.w0.heap.size I.w0 w) := ⟨h.blk, h.base, h.bel⟩
  clear h h11
  conv => arg 2; whnf
  go_wp2
  refine mid_intro (by kernel_rfl) ⟨HK.out.1, HK.out.2.1, HK.out.2.2, by kernel_rfl, by kernel_rfl, by kernel_rfl, by kernel_rfl, by kernel_rfl, by kernel_rfl, by kernel_rfl⟩
end Go.Proofs.Ybulkbyna

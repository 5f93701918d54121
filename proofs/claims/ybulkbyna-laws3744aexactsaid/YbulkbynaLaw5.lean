/- The law's loops: the rows are filled. -/
import Derived.Test.YbulkbynaLawM
namespace Go.Proofs.Ybulkbyna
open Go.ChangeShapes Go.WideShapes Go.ChangeAt Go.RowKit
set_option linter.unusedVariables false

set_option maxRecDepth 1000000 in
set_option maxHeartbeats 4000000 in
theorem it20 {I : Inp} {b : Nat → Nat} {g : Nat → Value} {w : World} (hI : I.Ok) (hb : Base I b g) (hB : Bld I b w I.nv (cntOf I.nv I.m 0)) (Rq : Ending → World → Prop) :
    (item 20).wp Yba.prog (Exit.then (Mid (fun g' w' => Base I b g' ∧ Bld I b w' I.nv (cntOf I.nv I.m I.nr))) (bodyPost Yba.prog Yba.f3 Rq)) (Fr g) w := by
  rw [Fr_lit, hb.s0, hb.s1, hb.s2, hb.s9, hb.s10, hb.s11, hb.s12, hb.s13, hb.s14]
  have HB : Hid (Bld I b w I.nv (cntOf I.nv I.m 0)) := hB
  have HI : Hid I.Ok := hI
  have hr3 := hI.r3
  clear hb hB hI
  conv => arg 2; whnf
  go_wp2_with fail
  go_loopw [309] (fun i wr => ∃ k : Nat, k ≤ I.nr ∧ i = .int .i64 k ∧ Hid (Bld I b wr I.nv (cntOf I.nv I.m k))) (fun i _ => I.nr - (intOf i).toNat)
  case atStart => exact ⟨0, by omega, rfl, HB⟩
  case round =>
    clear HB
    obtain ⟨k, hk, rfl, HJ⟩ := hrel
    obtain ⟨w1, hw1⟩ : ∃ w1, w1 = wr := ⟨_, rfl⟩
    subst hw1
    by_cases hkn : k < I.nr
    · obtain ⟨br, off, har, hbr, hcr⟩ := HI.out.rs.cells k hkn
      obtain ⟨c0, c1⟩ := hcr k hkn
      rw [← HJ.out.bel.cell (p := ⟨br, off + k * 2, none⟩) hbr] at c0
      rw [← HJ.out.bel.cell (p := ⟨br, off + k * 2 + 1, none⟩) hbr] at c1
      have hbr1 : br < w1.heap.size := Nat.lt_of_lt_of_le hbr HJ.out.bel.size
      rw [har]
      clear hcr
      go_wp2
      have hP0 := blk_new w1 #[.int .i8 (I.R k).1, .int .i8 (I.R k).2] 49
      have hB0 := HJ.out.alloc (.cells #[.int .i8 (I.R k).1, .int .i8 (I.R k).2] 49)
      obtain ⟨p, hp⟩ : ∃ p, p = w1.heap.size := ⟨_, rfl⟩
      obtain ⟨w2, hw2⟩ : ∃ w2, w2 = w1.alloc (.cells #[.int .i8 (I.R k).1, .int .i8 (I.R k).2] 49) := ⟨_, rfl⟩
      rw [← hw2, ← hp] at hP0
      rw [← hw2] at hB0
      rw [← hp, ← hw2]
      have H2 : Hid (Bld I b w2 I.nv (cntOf I.nv I.m k) ∧ Blk w2 p 49 [.int .i8 (I.R k).1, .int .i8 (I.R k).2]) := ⟨hB0, hP0⟩
      clear hp hw2 hP0 hB0 HJ c0 c1 hbr1 w1
      have s13 : w2.cell? ⟨b 18, 13, none⟩ = some (.slice (some ⟨b 13, 0, none⟩) I.nr I.nr) := H2.out.1.solv 13
      obtain ⟨x13, d13⟩ := H2.out.1.some (k := 13) (by decide) (show k < I.nr from hkn)
      have f13 := H2.out.1.fro (k := 13) (by decide) k
      have p0 : w2.cell? ⟨p, 0, none⟩ = some (.int .i8 (I.R k).1) := H2.out.2.cell 0
      have l13 := H2.out.1.lt (k := 13) (by decide)
      have l18 := H2.out.1.lt (k := 18) (by decide)
      have lp := H2.out.2.lt
      go_big_region
      have hne : p ≠ b 13 := fun e => by obtain ⟨c, hc⟩ := H2.out.1; exact H2.out.2.ne (hc.mem.blk 13 (by decide)) (by decide) e
      have hB3 : Bld I b ((w2.setCell ⟨b 13, k, none⟩ (.float .f64 (floatOfInt .f64 (I.R k).1))).drew) I.nv (upd (cntOf I.nv I.m k) 13 (k + 1)) := (H2.out.1.put 13 (by decide)).draws 1
      have hP3 : Blk ((w2.setCell ⟨b 13, k, none⟩ (.float .f64 (floatOfInt .f64 (I.R k).1))).drew) p 49 [.int .i8 (I.R k).1, .int .i8 (I.R k).2] := (H2.out.2.other hne k _).draws 1
      go_wp2
      obtain ⟨w3, hw3⟩ : ∃ w3, w3 = (w2.setCell ⟨b 13, k, none⟩ (.float .f64 (floatOfInt .f64 (I.R k).1))).drew := ⟨_, rfl⟩
      rw [← hw3] at hB3 hP3 ⊢
      have H3 : Hid (Bld I b w3 I.nv (upd (cntOf I.nv I.m k) 13 (k + 1)) ∧ Blk w3 p 49 [.int .i8 (I.R k).1, .int .i8 (I.R k).2]) := ⟨hB3, hP3⟩
      clear hw3 hP3 hB3 H2 s13 d13 f13 p0 l13 l18 lp hne w2 x13
      have s14 : w3.cell? ⟨b 18, 14, none⟩ = some (.slice (some ⟨b 14, 0, none⟩) I.nr I.nr) := H3.out.1.solv 14
      obtain ⟨x14, d14⟩ := H3.out.1.some (k := 14) (by decide) (show k < I.nr from hkn)
      have f14 := H3.out.1.fro (k := 14) (by decide) k
      have p1 : w3.cell? ⟨p, 1, none⟩ = some (.int .i8 (I.R k).2) := H3.out.2.cell 1
      have l14 := H3.out.1.lt (k := 14) (by decide)
      have l18 := H3.out.1.lt (k := 18) (by decide)
      have lp := H3.out.2.lt
      go_big_region
      go_wp2
      refine ⟨⟨k + 1, by omega, by go_num, ?_⟩, by simp [intOf]; omega⟩
      refine Bld.draws (n := 1) (Bld.congr (H3.out.1.put 14 (by decide)) _ ?_)
      intro q hq
      simp only [TT, List.mem_cons, List.not_mem_nil, or_false] at hq
      rcases hq with rfl | rfl | rfl | rfl | rfl | rfl | rfl | rfl | rfl | rfl | rfl | rfl <;> rfl
    · obtain rfl : k = I.nr := by omega
      go_wp2
      refine mid_intro (by kernel_rfl) ⟨⟨by kernel_rfl, by kernel_rfl, by kernel_rfl, by kernel_rfl, by kernel_rfl, by kernel_rfl, by kernel_rfl, by kernel_rfl, by kernel_rfl⟩, HJ.out⟩
end Go.Proofs.Ybulkbyna

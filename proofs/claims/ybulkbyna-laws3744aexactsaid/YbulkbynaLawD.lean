/- The law's checks: lengths, amounts, caps. -/
import Derived.Test.YbulkbynaLawF
import Derived.Test.YbulkbynaOrderL
namespace Go.Proofs.Ybulkbyna
open Go.ChangeShapes Go.WideShapes Go.ChangeAt Go.RowKit
set_option linter.unusedVariables false
set_option linter.unusedSimpArgs false


set_option maxRecDepth 1000000 in
set_option maxHeartbeats 4000000 in
theorem it21 {I : Inp} {b : Nat → Nat} {g : Nat → Value} {w : World} (hI : I.Ok) (hE : ∀ j, j < I.nv → (I.V j).el ≤ 300) (hb : Base I b g) (hB : Bld I b w I.nv (cntOf I.nv I.m I.nr)) (Rq : Ending → World → Prop) :
    (item 21).wp Yba.prog (Exit.then (Mid (fun g' w' => ∃ r bR, BaseR I b bR g' ∧ FW I b r bR w')) (bodyPost Yba.prog Yba.f3 Rq)) (Fr g) w := by
  rw [Fr_lit, hb.s0, hb.s1, hb.s2, hb.s9, hb.s10, hb.s11, hb.s12, hb.s13, hb.s14]
  have HS : Hid (Slv w (b 18) (b2 b) (dat I)) := hB.slv hI hE
  have HB : Hid (Bld I b w I.nv (cntOf I.nv I.m I.nr)) := hB
  clear hb hB hI hE
  conv => arg 2; whnf
  go_wp2_with fail
  refine (residuals_any (b 18) (b2 b) (dat I) w HS.out).mono ?_
  rintro e w1 ⟨r, c, rfl, hM, h0, h1, h2, h3⟩
  have HF : Hid (FW I b r w1.heap.size (w1.alloc (.cells #[.slice (some ⟨r 20, 0, none⟩) I.nv I.nv, .slice (some ⟨r 21, 0, none⟩) I.nv I.nv, .slice (some ⟨r 22, 0, none⟩) I.nr I.nr, .slice (some ⟨r 23, 0, none⟩) I.m I.m] 51))) := fw_of HB.out hM h0 h1 h2 h3
  clear hM h0 h1 h2 h3 HB HS
  go_wp2
  refine mid_intro (by kernel_rfl) ⟨r, w1.heap.size, ⟨⟨by kernel_rfl, by kernel_rfl, by kernel_rfl, by kernel_rfl, by kernel_rfl, by kernel_rfl, by kernel_rfl, by kernel_rfl, by kernel_rfl⟩, by kernel_rfl⟩, HF.out⟩

set_option maxRecDepth 1000000 in
set_option maxHeartbeats 4000000 in
theorem it22 {I : Inp} {b r : Nat → Nat} {bR : Nat} {g : Nat → Value} {w : World} (hb : BaseR I b bR g) (hF : FW I b r bR w) (Rq : Ending → World → Prop) :
    (item 22).wp Yba.prog (Exit.then (Mid (fun g' w' => BaseR I b bR g' ∧ FW I b r bR w')) (bodyPost Yba.prog Yba.f3 Rq)) (Fr g) w := by
  rw [Fr_lit, hb.base.s0, hb.base.s1, hb.base.s2, hb.base.s9, hb.base.s10, hb.base.s11, hb.base.s12, hb.base.s13, hb.base.s14, hb.s25]
  have v0 := hF.v0
  have v1 := hF.v1
  have v2 := hF.v2
  have v3 := hF.v3
  have HF : Hid (FW I b r bR w) := hF
  clear hb hF
  conv => arg 2; whnf
  go_wp2
  refine mid_intro (by kernel_rfl) ⟨⟨⟨by kernel_rfl, by kernel_rfl, by kernel_rfl, by kernel_rfl, by kernel_rfl, by kernel_rfl, by kernel_rfl, by kernel_rfl, by kernel_rfl⟩, by kernel_rfl⟩, HF.out⟩

set_option maxRecDepth 1000000 in
set_option maxHeartbeats 4000000 in
theorem it23 {I : Inp} {b r : Nat → Nat} {bR : Nat} {g : Nat → Value} {w : World} (hI : I.Ok) (hb : BaseR I b bR g) (hF : FW I b r bR w) (Rq : Ending → World → Prop) :
    (item 23).wp Yba.prog (Exit.then (Mid (fun g' w' => BaseR I b bR g' ∧ FW I b r bR w')) (bodyPost Yba.prog Yba.f3 Rq)) (Fr g) w := by
  rw [Fr_lit, hb.base.s0, hb.base.s1, hb.base.s2, hb.base.s9, hb.base.s10, hb.base.s11, hb.base.s12, hb.base.s13, hb.base.s14, hb.s25]
  have HF : Hid (FW I b r bR w) := hF
  have HI : Hid I.Ok := hI
  have hm3 := (Inp.m3 hI).1
  clear hb hF hI
  conv => arg 2; whnf
  go_wp2_with fail
  go_loopw [366] (fun i wr => ∃ k : Nat, k ≤ I.m ∧ i = .int .i64 k ∧ Hid (FW I b r bR wr)) (fun i _ => I.m - (intOf i).toNat)
  case atStart => exact ⟨0, by omega, rfl, HF⟩
  case round =>
    clear HF
    obtain ⟨k, hk, rfl, HJ⟩ := hrel
    obtain ⟨w1, hw1⟩ : ∃ w1, w1 = wr := ⟨_, rfl⟩
    subst hw1
    by_cases hkn : k < I.m
    · have c0 : w1.cell? ⟨b 0, k * 6, none⟩ = some (.int .i8 (I.us k).w) := HJ.out.bld.user (k := 0) hkn (by omega)
      have c1 : w1.cell? ⟨b 0, k * 6 + 1, none⟩ = some (.int .i8 (I.us k).am) := HJ.out.bld.user (k := 1) hkn (by omega)
      have c2 : w1.cell? ⟨b 0, k * 6 + 2, none⟩ = some (.int .i8 (I.us k).c) := HJ.out.bld.user (k := 2) hkn (by omega)
      have c3 : w1.cell? ⟨b 0, k * 6 + 3, none⟩ = some (.int .i8 (I.us k).eta) := HJ.out.bld.user (k := 3) hkn (by omega)
      have c4 : w1.cell? ⟨b 0, k * 6 + 4, none⟩ = some (.int .i8 (I.us k).lim) := HJ.out.bld.user (k := 4) hkn (by omega)
      have c5 : w1.cell? ⟨b 0, k * 6 + 5, none⟩ = some (.bool (I.us k).cap) := HJ.out.bld.user (k := 5) hkn (by omega)
      have l0 := HJ.out.bld.lt (k := 0) (by decide)
      have d17 : w1.cell? ⟨b 17, k, none⟩ = some (.float .f64 (floatOfInt .f64 (I.us k).am)) := HJ.out.bld.got (k := 17) (by decide) hkn hkn
      have l17 := HJ.out.bld.lt (k := 17) (by decide)
      have y := (us_b8 HI.out k hkn).2.1
      have eo : FloatKind.f64.format.order (floatOfInt .f64 (I.us k).am) (floatOfInt .f64 (I.us k).am) = some .eq := order_self (fi_num y.1 y.2).notNaN
      clear y
      go_wp2
      go_region
      go_wp2
      exact ⟨⟨k + 1, by omega, by go_num, HJ.out.below ((Below.refl _ _).alloc (Nat.le_refl _) _).drew⟩, by simp [intOf]; omega⟩
    · obtain rfl : k = I.m := by omega
      go_wp2
      refine mid_intro (by kernel_rfl) ⟨⟨⟨by kernel_rfl, by kernel_rfl, by kernel_rfl, by kernel_rfl, by kernel_rfl, by kernel_rfl, by kernel_rfl, by kernel_rfl, by kernel_rfl⟩, by kernel_rfl⟩, HJ.out⟩

set_option maxRecDepth 1000000 in
set_option maxHeartbeats 4000000 in
theorem it26 {I : Inp} {b r : Nat → Nat} {bR : Nat} {g : Nat → Value} {w : World} (hI : I.Ok) (hb : BaseR I b bR g) (hF : FW I b r bR w) (Rq : Ending → World → Prop) :
    (item 26).wp Yba.prog (Exit.then (Mid (fun g' w' => BaseR I b bR g' ∧ FW I b r bR w')) (bodyPost Yba.prog Yba.f3 Rq)) (Fr g) w := by
  rw [Fr_lit, hb.base.s0, hb.base.s1, hb.base.s2, hb.base.s9, hb.base.s10, hb.base.s11, hb.base.s12, hb.base.s13, hb.base.s14, hb.s25]
  have HF : Hid (FW I b r bR w) := hF
  have HI : Hid I.Ok := hI
  have hm3 := (Inp.m3 hI).1
  clear hb hF hI
  conv => arg 2; whnf
  go_wp2_with fail
  go_loopw [539] (fun i wr => ∃ k : Nat, k ≤ I.m ∧ i = .int .i64 k ∧ Hid (FW I b r bR wr)) (fun i _ => I.m - (intOf i).toNat)
  case atStart => exact ⟨0, by omega, rfl, HF⟩
  case round =>
    clear HF
    obtain ⟨k, hk, rfl, HJ⟩ := hrel
    obtain ⟨w1, hw1⟩ : ∃ w1, w1 = wr := ⟨_, rfl⟩
    subst hw1
    by_cases hkn : k < I.m
    · have c0 : w1.cell? ⟨b 0, k * 6, none⟩ = some (.int .i8 (I.us k).w) := HJ.out.bld.user (k := 0) hkn (by omega)
      have c1 : w1.cell? ⟨b 0, k * 6 + 1, none⟩ = some (.int .i8 (I.us k).am) := HJ.out.bld.user (k := 1) hkn (by omega)
      have c2 : w1.cell? ⟨b 0, k * 6 + 2, none⟩ = some (.int .i8 (I.us k).c) := HJ.out.bld.user (k := 2) hkn (by omega)
      have c3 : w1.cell? ⟨b 0, k * 6 + 3, none⟩ = some (.int .i8 (I.us k).eta) := HJ.out.bld.user (k := 3) hkn (by omega)
      have c4 : w1.cell? ⟨b 0, k * 6 + 4, none⟩ = some (.int .i8 (I.us k).lim) := HJ.out.bld.user (k := 4) hkn (by omega)
      have c5 : w1.cell? ⟨b 0, k * 6 + 5, none⟩ = some (.bool (I.us k).cap) := HJ.out.bld.user (k := 5) hkn (by omega)
      have l0 := HJ.out.bld.lt (k := 0) (by decide)
      have v3 := HJ.out.v3
      have d23 := HJ.out.rc k hkn
      have l23 := HJ.out.lt.2.2.2.2
      have lR := HJ.out.lt.1
      obtain ⟨y1, y2, y3, y4, y5⟩ := us_b8 HI.out k hkn
      cases hcap : (I.us k).cap with
      | true =>
        rw [hcap] at c5
        have er : rcOf (dat I) k = fsub (fadd (floatOfInt .f64 (I.us k).am) (floatOfInt .f64 (I.us k).c)) (floatOfInt .f64 (I.us k).lim) := if_pos hcap
        rw [er] at d23
        have ra : ∀ W, (binOp .add 41 (.float .f64 (floatOfInt .f64 (I.us k).am)) (.float .f64 (floatOfInt .f64 (I.us k).c))).run Yba.prog W = .ok (.float .f64 (fadd (floatOfInt .f64 (I.us k).am) (floatOfInt .f64 (I.us k).c))) W := fun W => run_add W 41 (sum_ok (fi_num y2.1 y2.2).notNaN (fi_num y3.1 y3.2)).1
        have rs : ∀ W, (binOp .sub 41 (.float .f64 (fadd (floatOfInt .f64 (I.us k).am) (floatOfInt .f64 (I.us k).c))) (.float .f64 (floatOfInt .f64 (I.us k).lim))).run Yba.prog W = .ok (.float .f64 (fsub (fadd (floatOfInt .f64 (I.us k).am) (floatOfInt .f64 (I.us k).c)) (floatOfInt .f64 (I.us k).lim))) W := fun W => run_sub W 41 (diff_ok (sum_ok (fi_num y2.1 y2.2).notNaN (fi_num y3.1 y3.2)).2 (fi_num y5.1 y5.2))
        clear hcap er y1 y2 y3 y4 y5
        obtain ⟨z, hz⟩ : ∃ z, z = fsub (fadd (floatOfInt .f64 (I.us k).am) (floatOfInt .f64 (I.us k).c)) (floatOfInt .f64 (I.us k).lim) := ⟨_, rfl⟩
        rw [← hz] at d23 rs
        clear hz
        go_wp2_with fail
        refine (same_any _ _ _ (Same.refl _)).mono ?_
        rintro e w' ⟨rfl, rfl⟩
        go_wp2
        exact ⟨⟨k + 1, by omega, by go_num, HJ.out.below ((Below.refl _ _).alloc (Nat.le_refl _) _)⟩, by simp [intOf]; omega⟩
      | false =>
        rw [hcap] at c5
        have er : rcOf (dat I) k = 0 := if_neg (show ¬ ((dat I).U k).cap = true by rw [show ((dat I).U k).cap = false from hcap]; decide)
        rw [er] at d23
        clear hcap er y1 y2 y3 y4 y5
        go_wp2_with fail
        refine (same_any _ _ _ (Same.refl _)).mono ?_
        rintro e w' ⟨rfl, rfl⟩
        go_wp2
        exact ⟨⟨k + 1, by omega, by go_num, HJ.out.below ((Below.refl _ _).alloc (Nat.le_refl _) _)⟩, by simp [intOf]; omega⟩
    · obtain rfl : k = I.m := by omega
      go_wp2
      refine mid_intro (by kernel_rfl) ⟨⟨⟨by kernel_rfl, by kernel_rfl, by kernel_rfl, by kernel_rfl, by kernel_rfl, by kernel_rfl, by kernel_rfl, by kernel_rfl, by kernel_rfl⟩, by kernel_rfl⟩, HJ.out⟩
end Go.Proofs.Ybulkbyna

/- The law's check of rd and scale. -/
import Derived.Test.YbulkbynaLawF
import Derived.Deep.Cut
import Derived.Test.YbulkbynaOrderL
namespace Go.Proofs.Ybulkbyna
open Go.ChangeShapes Go.WideShapes Go.ChangeAt Go.RowKit
set_option linter.unusedVariables false
set_option linter.unusedSimpArgs false

set_option maxRecDepth 1000000 in
set_option maxHeartbeats 4000000 in
theorem it24 {I : Inp} {b r : Nat → Nat} {bR : Nat} {g : Nat → Value} {w : World} (hI : I.Ok) (hE : ∀ j, j < I.nv → (I.V j).el ≤ 300) (hb : BaseR I b bR g) (hF : FW I b r bR w) (Rq : Ending → World → Prop) :
    (item 24).wp Yba.prog (Exit.then (Mid (fun g' w' => BaseR I b bR g' ∧ FW I b r bR w')) (bodyPost Yba.prog Yba.f3 Rq)) (Fr g) w := by
  rw [Fr_lit, hb.base.s0, hb.base.s1, hb.base.s2, hb.base.s9, hb.base.s10, hb.base.s11, hb.base.s12, hb.base.s13, hb.base.s14, hb.s25]
  have HF : Hid (FW I b r bR w) := hF
  have HI : Hid I.Ok := hI
  have HE : Hid (∀ j, j < I.nv → (I.V j).el ≤ 300) := hE
  have hm3 := (Inp.m3 hI).1
  have hm0 := (Inp.m3 hI).2
  have hv3 := hI.v3
  have hr3 := hI.r3
  clear hb hF hI hE
  conv => arg 2; whnf
  go_wp2_with fail
  go_loopw [382] (fun i wr => ∃ k : Nat, k ≤ I.nv ∧ i = .int .i64 k ∧ Hid (FW I b r bR wr)) (fun i _ => I.nv - (intOf i).toNat)
  case atStart => exact ⟨0, by omega, rfl, HF⟩
  case round =>
    clear HF
    obtain ⟨j, hj, rfl, HJ⟩ := hrel
    obtain ⟨w1, hw1⟩ : ∃ w1, w1 = wr := ⟨_, rfl⟩
    subst hw1
    by_cases hjn : j < I.nv
    · obtain ⟨bv, ov, hav, hbv, hcv⟩ := HI.out.vs.cells j hjn
      obtain ⟨c0, c1, c2, c3, c4⟩ := hcv j hjn
      have hbel := HJ.out.bld.bel
      rw [← hbel.cell (p := ⟨bv, ov + j * 5, none⟩) hbv] at c0
      rw [← hbel.cell (p := ⟨bv, ov + j * 5 + 1, none⟩) hbv] at c1
      rw [← hbel.cell (p := ⟨bv, ov + j * 5 + 2, none⟩) hbv] at c2
      rw [← hbel.cell (p := ⟨bv, ov + j * 5 + 3, none⟩) hbv] at c3
      rw [← hbel.cell (p := ⟨bv, ov + j * 5 + 4, none⟩) hbv] at c4
      have hbv1 : bv < w1.heap.size := Nat.lt_of_lt_of_le hbv hbel.size
      clear hcv hbel
      obtain ⟨hu8, y1, _, y3⟩ := HI.out.vs.bd j hjn
      have hui : (wrap64 (I.V j).u).tmod (I.m : Int) = (((dat I).ui j : Nat) : Int) := by
        have h0 := hu8.1
        have h1 := hu8.2
        rw [show wrap64 (I.V j).u = (I.V j).u by unfold wrap64; omega]
        have e : (I.V j).u = (((I.V j).u.toNat : Nat) : Int) := by omega
        rw [e]
        show ((((I.V j).u.toNat : Nat) : Int).tmod ((I.m : Nat) : Int)) = (((((I.V j).u.toNat : Nat) : Int).toNat % I.m : Nat) : Int)
        rw [Int.toNat_natCast]
        exact (Int.ofNat_tmod _ _).symm
      have hum : (dat I).ui j < I.m := Nat.mod_lt _ hm0
      have hmz : ((I.m : Int) == 0) = false := by simp; omega
      have k0 : w1.cell? ⟨b 0, (dat I).ui j * 6, none⟩ = some (.int .i8 (I.us ((dat I).ui j)).w) := HJ.out.bld.user (k := 0) hum (by omega)
      have k1 : w1.cell? ⟨b 0, (dat I).ui j * 6 + 1, none⟩ = some (.int .i8 (I.us ((dat I).ui j)).am) := HJ.out.bld.user (k := 1) hum (by omega)
      have k3 : w1.cell? ⟨b 0, (dat I).ui j * 6 + 3, none⟩ = some (.int .i8 (I.us ((dat I).ui j)).eta) := HJ.out.bld.user (k := 3) hum (by omega)
      have l0 := HJ.out.bld.lt (k := 0) (by decide)
      obtain ⟨t1, t2, _, t4, _⟩ := us_b8 HI.out _ hum
      have rm : ∀ W, (binOp .mul 41 (.float .f64 (floatOfInt .f64 (I.us ((dat I).ui j)).w)) (.float .f64 (floatOfInt .f64 (I.V j).f))).run Yba.prog W = .ok (.float .f64 (numer (dat I) j)) W := fun W => run_mul W 41 (prod_num t1 y1).1
      have rp : ∀ W, (binOp .mul 41 (.float .f64 (floatOfInt .f64 (I.V j).f)) (.float .f64 (floatOfInt .f64 (I.us ((dat I).ui j)).eta))).run Yba.prog W = .ok (.float .f64 (priceAt (dat I) j 0)) W := fun W => run_mul W 41 (prod_num y1 t4).1
      have HT : Hid (B8 (I.V j).f ∧ B8 (I.us ((dat I).ui j)).eta) := ⟨y1, t4⟩
      clear t1 t2 t4 y1 y3 hu8
      have hP0 := blk_new w1 #[.int .u8 (I.V j).u, .int .i8 (I.V j).f, .int .i8 (I.V j).z, .int .i8 (I.V j).nu, .slice (I.V j).ea (I.V j).el (I.V j).ec] 28
      have hB0 := HJ.out.below ((Below.refl _ _).alloc (Nat.le_refl _) (.cells #[.int .u8 (I.V j).u, .int .i8 (I.V j).f, .int .i8 (I.V j).z, .int .i8 (I.V j).nu, .slice (I.V j).ea (I.V j).el (I.V j).ec] 28))
      obtain ⟨gr, q, hG, hrun⟩ := run_FR (P := Yba.prog) (w1.alloc (.cells #[.int .u8 (I.V j).u, .int .i8 (I.V j).f, .int .i8 (I.V j).z, .int .i8 (I.V j).nu, .slice (I.V j).ea (I.V j).el (I.V j).ec] 28)) .quo (Or.inr rfl) 41 (numer (dat I) j) (floatOfInt .f64 (I.us ((dat I).ui j)).am)
      have HG : Hid (GR (dat I) j gr) := hG
      have H1 : Hid (Blk ((w1.alloc (.cells #[.int .u8 (I.V j).u, .int .i8 (I.V j).f, .int .i8 (I.V j).z, .int .i8 (I.V j).nu, .slice (I.V j).ea (I.V j).el (I.V j).ec] 28)).drewN q) w1.heap.size 28 [.int .u8 (I.V j).u, .int .i8 (I.V j).f, .int .i8 (I.V j).z, .int .i8 (I.V j).nu, .slice (I.V j).ea (I.V j).el (I.V j).ec] ∧ FW I b r bR ((w1.alloc (.cells #[.int .u8 (I.V j).u, .int .i8 (I.V j).f, .int .i8 (I.V j).z, .int .i8 (I.V j).nu, .slice (I.V j).ea (I.V j).el (I.V j).ec] 28)).drewN q)) := ⟨hP0.draws q, hB0.below ⟨rfl, rfl, rfl, Nat.le_refl _, fun _ _ => rfl⟩⟩
      clear hG hP0 hB0
      rw [hav]
      by_cases hnr : I.nr = 0
      · have e0 : decide (0 < (I.nr : Int)) = false := by simp; omega
        have e0' : decide (0 < I.nr) = false := by simp; omega
        have hel : (dat I).el j = 0 := if_pos hnr
        clear hnr
        go_upto_region 84 with (fail)
        obtain ⟨p, hp⟩ : ∃ p, p = w1.heap.size := ⟨_, rfl⟩
        obtain ⟨wz, hwz⟩ : ∃ wz, wz = (w1.alloc (.cells #[.int .u8 (I.V j).u, .int .i8 (I.V j).f, .int .i8 (I.V j).z, .int .i8 (I.V j).nu, .slice (I.V j).ea (I.V j).el (I.V j).ec] 28)).drewN q := ⟨_, rfl⟩
        rw [← hp, ← hwz] at H1
        rw [← hp, ← hwz]
        have HZ : Hid (FW I b r bR wz ∧ Blk wz p 28 [.int .u8 (I.V j).u, .int .i8 (I.V j).f, .int .i8 (I.V j).z, .int .i8 (I.V j).nu, .slice (I.V j).ea (I.V j).el (I.V j).ec]) := ⟨H1.out.2, H1.out.1⟩
        clear hp hwz H1 HJ c0 c1 c2 c3 c4 hbv1 k0 k1 k3 l0 rm rp hrun w1
        obtain ⟨x1, q1, hX1, hrun1⟩ := run_FR (P := Yba.prog) wz .sub (Or.inl rfl) 41 (priceAt (dat I) j 0) gr
        obtain ⟨x2, q2, hX2, hrun2⟩ := run_FR (P := Yba.prog) (wz.drewN q1) .sub (Or.inl rfl) 41 x1 (floatOfInt .f64 (I.V j).nu)
        obtain ⟨x3, q3, hM3, hrun3⟩ := run_MR (P := Yba.prog) (wz.drewN (q1 + q2)) gr (priceAt (dat I) j 0)
        obtain ⟨y0, d20, hy0⟩ := HZ.out.1.rd j hjn
        obtain ⟨y1, d21, hy1⟩ := HZ.out.1.sc j hjn
        have hS1 : Same y0 x2 := hy0.same ⟨gr, x1, HG.out, by rw [hel]; exact hX1, hX2⟩
        have hS2 : Same y1 x3 := hy1.same ⟨gr, HG.out, by rw [hel]; exact hM3⟩
        have HSS : Hid (Same y0 x2 ∧ Same y1 x3) := ⟨hS1, hS2⟩
        have p3 : wz.cell? ⟨p, 3, none⟩ = some (.int .i8 (I.V j).nu) := HZ.out.2.cell 3
        have v0 := HZ.out.1.v0
        have v1 := HZ.out.1.v1
        have lR := HZ.out.1.lt
        have lp := HZ.out.2.lt
        clear hX1 hX2 hM3 hy0 hy1 hS1 hS2 HG
        go_wp2_with fail
        refine (same_any _ _ _ HSS.out.1).mono ?_
        rintro e' w' ⟨rfl, rfl⟩
        go_wp2_with fail
        refine (same_any _ _ _ HSS.out.2).mono ?_
        rintro e' w' ⟨rfl, rfl⟩
        go_wp2
        exact ⟨⟨j + 1, by omega, by go_num, HZ.out.1.below ⟨rfl, rfl, rfl, Nat.le_refl _, fun _ _ => rfl⟩⟩, by simp [intOf]; omega⟩
      · have e0 : decide (0 < (I.nr : Int)) = true := by simp; omega
        have hel : (dat I).el j = (I.V j).el := if_neg hnr
        have hnz : ((I.nr : Int) == 0) = false := by simp; omega
        have hel3 := HE.out j hjn
        go_wp2_with fail
        obtain ⟨p, hp⟩ : ∃ p, p = w1.heap.size := ⟨_, rfl⟩
        obtain ⟨wz, hwz⟩ : ∃ wz, wz = (w1.alloc (.cells #[.int .u8 (I.V j).u, .int .i8 (I.V j).f, .int .i8 (I.V j).z, .int .i8 (I.V j).nu, .slice (I.V j).ea (I.V j).el (I.V j).ec] 28)).drewN q := ⟨_, rfl⟩
        rw [← hp, ← hwz] at H1
        rw [← hp, ← hwz]
        have HZ : Hid (FW I b r bR wz ∧ Blk wz p 28 [.int .u8 (I.V j).u, .int .i8 (I.V j).f, .int .i8 (I.V j).z, .int .i8 (I.V j).nu, .slice (I.V j).ea (I.V j).el (I.V j).ec]) := ⟨H1.out.2, H1.out.1⟩
        clear hp hwz H1 HJ c0 c1 c2 c3 c4 hbv1 k0 k1 k3 l0 rm rp hrun w1
        go_loopw [424, 34] (fun i pr wr => ∃ e : Nat, e ≤ (I.V j).el ∧ i = .int .i64 e ∧ pr = .float .f64 (priceAt (dat I) j e) ∧ Hid (FW I b r bR wr ∧ Blk wr p 28 [.int .u8 (I.V j).u, .int .i8 (I.V j).f, .int .i8 (I.V j).z, .int .i8 (I.V j).nu, .slice (I.V j).ea (I.V j).el (I.V j).ec])) (fun i _ _ => (I.V j).el - (intOf i).toNat)
        case atStart => exact ⟨0, by omega, rfl, rfl, HZ⟩
        case round =>
          clear HZ
          obtain ⟨e, he, rfl, rfl, HK⟩ := hrel
          obtain ⟨wa, hwa⟩ : ∃ wa, wa = wr := ⟨_, rfl⟩
          subst hwa
          by_cases hee : e < (I.V j).el
          · obtain ⟨be, oe, hea, hbe, hce⟩ := (HI.out.vs.ents j hjn).cells e hee
            obtain ⟨c0, c1⟩ := hce e hee
            have hbel := HK.out.1.bld.bel
            rw [← hbel.cell (p := ⟨be, oe + e * 2, none⟩) hbe] at c0
            rw [← hbel.cell (p := ⟨be, oe + e * 2 + 1, none⟩) hbe] at c1
            have hbe1 : be < wa.heap.size := Nat.lt_of_lt_of_le hbe hbel.size
            obtain ⟨hu8', hev⟩ := (HI.out.vs.ents j hjn).bd e hee
            have hri : (wrap64 ((I.V j).E e).1).tmod (I.nr : Int) = (((dat I).ri j e : Nat) : Int) := by
              have h0 := hu8'.1
              have h1 := hu8'.2
              rw [show wrap64 ((I.V j).E e).1 = ((I.V j).E e).1 by unfold wrap64; omega]
              have e1 : ((I.V j).E e).1 = ((((I.V j).E e).1.toNat : Nat) : Int) := by omega
              rw [e1]
              show (((((I.V j).E e).1.toNat : Nat) : Int).tmod ((I.nr : Nat) : Int)) = ((((((I.V j).E e).1.toNat : Nat) : Int).toNat % I.nr : Nat) : Int)
              rw [Int.toNat_natCast]
              exact (Int.ofNat_tmod _ _).symm
            have hr0 : 0 < I.nr := by simp at e0; omega
            have hrow : (dat I).ri j e < I.nr := Nat.mod_lt _ hr0
            obtain ⟨br, off, har, hbr, hcr⟩ := HI.out.rs.cells _ hrow
            have r1 := (hcr _ hrow).2
            rw [← hbel.cell (p := ⟨br, off + (dat I).ri j e * 2 + 1, none⟩) hbr] at r1
            have hbr1 : br < wa.heap.size := Nat.lt_of_lt_of_le hbr hbel.size
            have hlam := (HI.out.rs.bd _ hrow).2
            have hm := prod_num hev hlam
            have hp := price_ok (dat I) j HT.out.1 HT.out.2 (fun e he => by rw [hel] at he; exact ((HI.out.vs.ents j hjn).bd e he).2) (fun e he => (HI.out.rs.bd _ (Nat.mod_lt _ hr0)).2) e (by rw [hel]; exact he)
            have rm : ∀ W, (binOp .mul 41 (.float .f64 (floatOfInt .f64 ((I.V j).E e).2)) (.float .f64 (floatOfInt .f64 (I.R ((dat I).ri j e)).2))).run Yba.prog W = .ok (.float .f64 (fmul (fi ((dat I).ev j e)) (fi ((dat I).R ((dat I).ri j e)).2))) W := fun W => run_mul W 41 hm.1
            have ra : ∀ W, (binOp .add 41 (.float .f64 (priceAt (dat I) j e)) (.float .f64 (fmul (fi ((dat I).ev j e)) (fi ((dat I).R ((dat I).ri j e)).2)))).run Yba.prog W = .ok (.float .f64 (priceAt (dat I) j (e + 1))) W := fun W => run_add W 41 (sum_ok hp hm.2).1
            clear hce hcr hbel hm hp hlam hev hu8'
            rw [hea, har]
            go_wp2
            go_region
            go_wp2
            refine ⟨⟨e + 1, by omega, by go_num, rfl, ?_, ?_⟩, by simp [intOf]; omega⟩
            · exact HK.out.1.below ((Below.refl _ _).alloc (Nat.le_refl _) _).drew
            · have hq := (HK.out.2.alloc (.cells #[.int .u8 ((I.V j).E e).1, .int .i8 ((I.V j).E e).2] 44)).draws 1
              rw [hea] at hq
              exact hq
          · obtain rfl : e = (I.V j).el := by omega
            clear he hee
            obtain ⟨x1, q1, hX1, hrun1⟩ := run_FR (P := Yba.prog) wa .sub (Or.inl rfl) 41 (priceAt (dat I) j (I.V j).el) gr
            obtain ⟨x2, q2, hX2, hrun2⟩ := run_FR (P := Yba.prog) (wa.drewN q1) .sub (Or.inl rfl) 41 x1 (floatOfInt .f64 (I.V j).nu)
            obtain ⟨x3, q3, hM3, hrun3⟩ := run_MR (P := Yba.prog) (wa.drewN (q1 + q2)) gr (priceAt (dat I) j (I.V j).el)
            obtain ⟨y0, d20, hy0⟩ := HK.out.1.rd j hjn
            obtain ⟨y1, d21, hy1⟩ := HK.out.1.sc j hjn
            have hS1 : Same y0 x2 := hy0.same ⟨gr, x1, HG.out, by rw [hel]; exact hX1, hX2⟩
            have hS2 : Same y1 x3 := hy1.same ⟨gr, HG.out, by rw [hel]; exact hM3⟩
            have HSS : Hid (Same y0 x2 ∧ Same y1 x3) := ⟨hS1, hS2⟩
            have p3 : wa.cell? ⟨p, 3, none⟩ = some (.int .i8 (I.V j).nu) := HK.out.2.cell 3
            have v0 := HK.out.1.v0
            have v1 := HK.out.1.v1
            have lR := HK.out.1.lt
            have lp := HK.out.2.lt
            clear hX1 hX2 hM3 hy0 hy1 hS1 hS2 HG
            go_wp2_with fail
            refine (same_any _ _ _ HSS.out.1).mono ?_
            rintro e' w' ⟨rfl, rfl⟩
            go_wp2_with fail
            refine (same_any _ _ _ HSS.out.2).mono ?_
            rintro e' w' ⟨rfl, rfl⟩
            go_wp2
            exact ⟨⟨j + 1, by omega, by go_num, HK.out.1.below ⟨rfl, rfl, rfl, Nat.le_refl _, fun _ _ => rfl⟩⟩, by simp [intOf]; omega⟩
    · obtain rfl : j = I.nv := by omega
      go_wp2
      refine mid_intro (by kernel_rfl) ⟨⟨⟨by kernel_rfl, by kernel_rfl, by kernel_rfl, by kernel_rfl, by kernel_rfl, by kernel_rfl, by kernel_rfl, by kernel_rfl, by kernel_rfl⟩, by kernel_rfl⟩, HJ.out⟩
end Go.Proofs.Ybulkbyna

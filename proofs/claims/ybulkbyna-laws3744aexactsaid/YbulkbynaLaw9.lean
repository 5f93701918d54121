/- The law's check of rp. -/
import Derived.Test.YbulkbynaLawF
import Derived.Deep.Cut
import Derived.Test.YbulkbynaOrderL
namespace Go.Proofs.Ybulkbyna
open Go.ChangeShapes Go.WideShapes Go.ChangeAt Go.RowKit
set_option linter.unusedVariables false
set_option linter.unusedSimpArgs false

set_option maxRecDepth 1000000 in
set_option maxHeartbeats 4000000 in
theorem it25 {I : Inp} {b r : Nat → Nat} {bR : Nat} {g : Nat → Value} {w : World} (hI : I.Ok) (hE : ∀ j, j < I.nv → (I.V j).el ≤ 300) (hb : BaseR I b bR g) (hF : FW I b r bR w) (Rq : Ending → World → Prop) :
    (item 25).wp Yba.prog (Exit.then (Mid (fun g' w' => BaseR I b bR g' ∧ FW I b r bR w')) (bodyPost Yba.prog Yba.f3 Rq)) (Fr g) w := by
  rw [Fr_lit, hb.base.s0, hb.base.s1, hb.base.s2, hb.base.s9, hb.base.s10, hb.base.s11, hb.base.s12, hb.base.s13, hb.base.s14, hb.s25]
  have HF : Hid (FW I b r bR w) := hF
  have HI : Hid I.Ok := hI
  have HE : Hid (∀ j, j < I.nv → (I.V j).el ≤ 300) := hE
  have hv3 := hI.v3
  have hr3 := hI.r3
  clear hb hF hI hE
  conv => arg 2; whnf
  by_cases hnr : I.nr = 0
  · have e0 : decide (0 < (I.nr : Int)) = false := by simp; omega
    have e0' : decide (0 < I.nr) = false := by simp; omega
    clear hnr
    go_wp2
    refine mid_intro (by kernel_rfl) ⟨⟨⟨by kernel_rfl, by kernel_rfl, by kernel_rfl, by kernel_rfl, by kernel_rfl, by kernel_rfl, by kernel_rfl, by kernel_rfl, by kernel_rfl⟩, by kernel_rfl⟩, HF.out⟩
  · have e0 : decide (0 < (I.nr : Int)) = true := by simp; omega
    have e0' : decide (0 < I.nr) = true := by simp; omega
    have hel : ∀ j, (dat I).el j = (I.V j).el := fun j => if_neg hnr
    have HL : Hid (∀ j, (dat I).el j = (I.V j).el) := hel
    have hr0 : 0 < I.nr := by omega
    have hnz : ((I.nr : Int) == 0) = false := by simp; omega
    obtain ⟨i0, hi, hz0, hz1, hz2⟩ := info_parts info41
    have hb2 : i0.bytes * I.nr ≤ 281474976710656 := by rw [hz2]; omega
    have hb3 : I.nr ≤ maxLen := by unfold maxLen; omega
    have HS : Hid (∀ j, j ≤ I.nv → Sums I.nr (uOut I.nr (dat I).el (dat I).ri (dat I).ev (dat I).Z j)) := uOut_sums (fun j _ e _ => Nat.mod_lt _ hr0) (fun j hj e he => ((HI.out.vs.ents j hj).bd e (by rw [hel] at he; exact he)).2) (fun j hj => (HI.out.vs.bd j hj).2.2.1)
    clear hel hnr
    go_wp2_with (at_make; refine wpList_make_full _ rfl (.tmp 473) (.tmp 473) 33 rfl w.heap.size 41 i0 _ 1 Yba.underlying33 hi hz0 hz1 _ _ _ _ I.nr rfl rfl rfl rfl hb2 hb3 (Nat.le_refl _) ?_; intro w1 ho1 hg1; rw [made_one _ _ rfl] at ho1; have hQ1 := (Blk.made ho1).1; have hB1 : Below w.heap.size w w1 := (Below.refl _ _).grown hg1 (Nat.le_refl _) (fun k h => by cases h); clear ho1 hg1)
    obtain ⟨q, hq⟩ : ∃ q, q = w.heap.size := ⟨_, rfl⟩
    have H1 : Hid (Below w.heap.size w w1 ∧ Blk w1 q 41 ((uOut I.nr (dat I).el (dat I).ri (dat I).ev (dat I).Z 0).map (Value.float .f64))) := ⟨hB1, by rw [uOut, List.map_replicate, hq]; exact hQ1⟩
    rw [← hq]
    have HQ : Hid (q = w.heap.size) := hq
    clear hq hB1 hQ1 hi hz0 hz1 hz2 hb2 hb3
    go_loopw [477] (fun i wr => ∃ k : Nat, k ≤ I.nv ∧ i = .int .i64 k ∧ Hid (Below w.heap.size w wr ∧ Blk wr q 41 ((uOut I.nr (dat I).el (dat I).ri (dat I).ev (dat I).Z k).map (Value.float .f64)))) (fun i _ => I.nv - (intOf i).toNat)
    case atStart => exact ⟨0, by omega, rfl, H1⟩
    case round =>
      clear H1 w1
      obtain ⟨j, hj, rfl, HJ⟩ := hrel
      obtain ⟨w1, hw1⟩ : ∃ w1, w1 = wr := ⟨_, rfl⟩
      subst hw1
      by_cases hjn : j < I.nv
      · obtain ⟨bv, ov, hav, hbv, hcv⟩ := HI.out.vs.cells j hjn
        obtain ⟨c0, c1, c2, c3, c4⟩ := hcv j hjn
        have hbel := (HF.out.below HJ.out.1).bld.bel
        rw [← hbel.cell (p := ⟨bv, ov + j * 5, none⟩) hbv] at c0
        rw [← hbel.cell (p := ⟨bv, ov + j * 5 + 1, none⟩) hbv] at c1
        rw [← hbel.cell (p := ⟨bv, ov + j * 5 + 2, none⟩) hbv] at c2
        rw [← hbel.cell (p := ⟨bv, ov + j * 5 + 3, none⟩) hbv] at c3
        rw [← hbel.cell (p := ⟨bv, ov + j * 5 + 4, none⟩) hbv] at c4
        clear hcv hbel
        rw [hav]
        go_wp2_with fail
        have H2 : Hid (Below w.heap.size w (w1.alloc (.cells #[.int .u8 (I.V j).u, .int .i8 (I.V j).f, .int .i8 (I.V j).z, .int .i8 (I.V j).nu, .slice (I.V j).ea (I.V j).el (I.V j).ec] 28)) ∧ Blk (w1.alloc (.cells #[.int .u8 (I.V j).u, .int .i8 (I.V j).f, .int .i8 (I.V j).z, .int .i8 (I.V j).nu, .slice (I.V j).ea (I.V j).el (I.V j).ec] 28)) q 41 ((uIn (dat I).ri (dat I).ev (dat I).Z j 0 (uOut I.nr (dat I).el (dat I).ri (dat I).ev (dat I).Z j)).map (Value.float .f64))) := ⟨HJ.out.1.alloc HJ.out.1.size _, HJ.out.2.alloc _⟩
        have hel3 := HE.out j hjn
        clear HJ c0 c1 c2 c3 c4
        go_loopw [485] (fun i wr => ∃ e : Nat, e ≤ (I.V j).el ∧ i = .int .i64 e ∧ Hid (Below w.heap.size w wr ∧ Blk wr q 41 ((uIn (dat I).ri (dat I).ev (dat I).Z j e (uOut I.nr (dat I).el (dat I).ri (dat I).ev (dat I).Z j)).map (Value.float .f64)))) (fun i _ => (I.V j).el - (intOf i).toNat)
        case atStart => exact ⟨0, by omega, rfl, H2⟩
        case round =>
          clear H2
          obtain ⟨e, he, rfl, HK⟩ := hrel
          obtain ⟨wa, hwa⟩ : ∃ wa, wa = wr := ⟨_, rfl⟩
          subst hwa
          by_cases hee : e < (I.V j).el
          · obtain ⟨be, oe, hea, hbe, hce⟩ := (HI.out.vs.ents j hjn).cells e hee
            obtain ⟨c0, c1⟩ := hce e hee
            have hbel := (HF.out.below HK.out.1).bld.bel
            rw [← hbel.cell (p := ⟨be, oe + e * 2, none⟩) hbe] at c0
            rw [← hbel.cell (p := ⟨be, oe + e * 2 + 1, none⟩) hbe] at c1
            have hbe1 : be < wa.heap.size := Nat.lt_of_lt_of_le hbe hbel.size
            obtain ⟨bv', ov', hav', hbv', hcv'⟩ := HI.out.vs.cells j hjn
            obtain ⟨rfl, rfl⟩ : bv' = bv ∧ ov' = ov := by
              rw [hav] at hav'
              simp only [Option.some.injEq, Addr.mk.injEq, and_true] at hav'
              exact ⟨hav'.1.symm, hav'.2.symm⟩
            have cz := (hcv' j hjn).2.2.1
            obtain ⟨hu8', hev⟩ := (HI.out.vs.ents j hjn).bd e hee
            have hri : (wrap64 ((I.V j).E e).1).tmod (I.nr : Int) = (((dat I).ri j e : Nat) : Int) := by
              have h0 := hu8'.1
              have h1 := hu8'.2
              rw [show wrap64 ((I.V j).E e).1 = ((I.V j).E e).1 by unfold wrap64; omega]
              have e1 : ((I.V j).E e).1 = ((((I.V j).E e).1.toNat : Nat) : Int) := by omega
              rw [e1]
              show (((((I.V j).E e).1.toNat : Nat) : Int).tmod ((I.nr : Nat) : Int)) = ((((((I.V j).E e).1.toNat : Nat) : Int).toNat % I.nr : Nat) : Int)
              rw [Int.toNat_natCast]
              exact (Int.ofNat_tmod _ _).symm
            have hrow : (dat I).ri j e < I.nr := Nat.mod_lt _ hr0
            have hsum := uIn_sums (nr := I.nr) (ri := (dat I).ri) (ev := (dat I).ev) (Z := (dat I).Z) (j := j) (I.V j).el (fun e _ => Nat.mod_lt _ hr0) (fun e he => ((HI.out.vs.ents j hjn).bd e he).2) (HI.out.vs.bd j hjn).2.2.1 (HS.out j hj) e he
            obtain ⟨hnn, hget⟩ := hsum.get _ hrow
            have hm := prod_num hev (HI.out.vs.bd j hjn).2.2.1
            have ha := sum_ok hnn hm.2
            obtain ⟨x, hx⟩ : ∃ x, x = (uIn (dat I).ri (dat I).ev (dat I).Z j e (uOut I.nr (dat I).el (dat I).ri (dat I).ev (dat I).Z j)).getD ((dat I).ri j e) 0 := ⟨_, rfl⟩
            rw [← hx] at ha hget
            have HX : Hid (x = (uIn (dat I).ri (dat I).ev (dat I).Z j e (uOut I.nr (dat I).el (dat I).ri (dat I).ev (dat I).Z j)).getD ((dat I).ri j e) 0) := hx
            have rm : ∀ W, (binOp .mul 41 (.float .f64 (floatOfInt .f64 ((I.V j).E e).2)) (.float .f64 (floatOfInt .f64 (I.V j).z))).run Yba.prog W = .ok (.float .f64 (fmul (fi ((dat I).ev j e)) (fi ((dat I).Z j)))) W := fun W => run_mul W 41 hm.1
            have ra : ∀ W, (binOp .add 41 (.float .f64 x) (.float .f64 (fmul (fi ((dat I).ev j e)) (fi ((dat I).Z j))))).run Yba.prog W = .ok (.float .f64 (fadd x (fmul (fi ((dat I).ev j e)) (fi ((dat I).Z j))))) W := fun W => run_add W 41 ha.1
            have hcu : wa.cell? ⟨q, (dat I).ri j e, none⟩ = some (.float .f64 x) := by rw [HK.out.2.cell, List.getElem?_map, hget]; rfl
            clear hce hcv' hx hget ha hm hnn hsum hev hu8'
            rw [hea]
            go_upto_region 99 with (fail)
            have hP0 := blk_new wa #[.int .u8 ((I.V j).E e).1, .int .i8 ((I.V j).E e).2] 44
            have hB0 : Below w.heap.size w (wa.alloc (.cells #[.int .u8 ((I.V j).E e).1, .int .i8 ((I.V j).E e).2] 44)) := HK.out.1.alloc HK.out.1.size _
            have hQ0 := HK.out.2.alloc (.cells #[.int .u8 ((I.V j).E e).1, .int .i8 ((I.V j).E e).2] 44)
            obtain ⟨p2, hp2⟩ : ∃ p2, p2 = wa.heap.size := ⟨_, rfl⟩
            obtain ⟨wb, hwb⟩ : ∃ wb, wb = wa.alloc (.cells #[.int .u8 ((I.V j).E e).1, .int .i8 ((I.V j).E e).2] 44) := ⟨_, rfl⟩
            rw [← hwb, ← hp2] at hP0
            rw [← hwb] at hB0 hQ0
            rw [← hp2, ← hwb]
            have hbelb := (HF.out.below hB0).bld.bel
            rw [← hbelb.cell (p := ⟨bv', ov' + j * 5 + 2, none⟩) hbv] at cz
            have z1 : wb.cell? ⟨p2, 1, none⟩ = some (.int .i8 ((I.V j).E e).2) := hP0.cell 1
            have zl := hP0.lt
            have zq : wb.cell? ⟨q, (dat I).ri j e, none⟩ = some (.float .f64 x) := by rw [hQ0.cell, ← HK.out.2.cell]; exact hcu
            have fq := hQ0.frozen ((dat I).ri j e)
            have ql := hQ0.lt
            have bl : bv' < wb.heap.size := Nat.lt_of_lt_of_le hbv hbelb.size
            have HN : Hid (Below w.heap.size w wb ∧ Blk wb q 41 ((uIn (dat I).ri (dat I).ev (dat I).Z j e (uOut I.nr (dat I).el (dat I).ri (dat I).ev (dat I).Z j)).map (Value.float .f64))) := ⟨hB0, hQ0⟩
            clear hp2 hwb hP0 hB0 hQ0 HK c0 c1 hbe1 hbel hbelb hcu wa
            go_big_region
            go_wp2
            refine ⟨⟨e + 1, by omega, by go_num, ?_, ?_⟩, by simp [intOf]; omega⟩
            · exact (HN.out.1.setCell (p := ⟨q, (dat I).ri j e, none⟩) (Nat.le_of_eq HQ.out.symm) _).drew
            · have hb := (HN.out.2.set ((dat I).ri j e) (.float .f64 (fadd x (fmul (fi ((dat I).ev j e)) (fi ((dat I).Z j)))))).draws 1
              rw [← List.map_set] at hb
              rw [uIn, ← HX.out]
              exact hb
          · obtain rfl : e = (I.V j).el := by omega
            go_wp2
            refine ⟨⟨j + 1, by omega, by go_num, HK.out.1, ?_⟩, by simp [intOf]; omega⟩
            have hb := HK.out.2
            rw [← HL.out j] at hb
            exact hb
      · obtain rfl : j = I.nv := by omega
        clear hj hjn
        go_wp2_with fail
        go_loopw [514] (fun i wr => ∃ k : Nat, k ≤ I.nr ∧ i = .int .i64 k ∧ Hid (Below w.heap.size w wr ∧ Blk wr q 41 ((uAll (dat I)).map (Value.float .f64)))) (fun i _ => I.nr - (intOf i).toNat)
        case atStart => exact ⟨0, by omega, rfl, HJ⟩
        case round =>
          clear HJ
          obtain ⟨k, hk, rfl, HK⟩ := hrel
          obtain ⟨wa, hwa⟩ : ∃ wa, wa = wr := ⟨_, rfl⟩
          subst hwa
          have F := HF.out.below HK.out.1
          by_cases hkn : k < I.nr
          · obtain ⟨br, off, har, hbr, hcr⟩ := HI.out.rs.cells k hkn
            obtain ⟨c0, c1⟩ := hcr k hkn
            have hbel := F.bld.bel
            rw [← hbel.cell (p := ⟨br, off + k * 2, none⟩) hbr] at c0
            rw [← hbel.cell (p := ⟨br, off + k * 2 + 1, none⟩) hbr] at c1
            have hbr1 : br < wa.heap.size := Nat.lt_of_lt_of_le hbr hbel.size
            have hT := (HI.out.rs.bd k hkn).1
            obtain ⟨hnn, hget⟩ := (HS.out I.nv (Nat.le_refl _)).get k hkn
            have hcu : wa.cell? ⟨q, k, none⟩ = some (.float .f64 ((uAll (dat I)).getD k 0)) := by
              rw [HK.out.2.cell, List.getElem?_map]
              show Option.map _ ((uOut I.nr (dat I).el (dat I).ri (dat I).ev (dat I).Z I.nv)[k]?) = _
              rw [hget]; rfl
            have rs : ∀ W, (binOp .sub 41 (.float .f64 (floatOfInt .f64 (I.R k).1)) (.float .f64 4607182418800017408)).run Yba.prog W = .ok (.float .f64 (fsub (fi (I.R k).1) one)) W := fun W => run_sub W 41 (sub1_ok hT).1
            have ra : ∀ W, (binOp .add 41 (.float .f64 ((uAll (dat I)).getD k 0)) (.float .f64 (fsub (fi (I.R k).1) one))).run Yba.prog W = .ok (.float .f64 (rpOf (dat I) k)) W := fun W => run_add W 41 (sum_ok hnn (sub1_ok hT).2).1
            obtain ⟨x, hx⟩ : ∃ x, x = (uAll (dat I)).getD k 0 := ⟨_, rfl⟩
            rw [← hx] at hcu ra
            have v2 := F.v2
            have d22 := F.rp k hkn
            have l22 := F.lt.2.2.2.1
            have lR := F.lt.1
            have lq := HK.out.2.lt
            clear hx hnn hget hT hcr hbel F
            rw [har]
            go_wp2
            go_region
            go_wp2_with fail
            refine (same_any _ _ _ (Same.refl _)).mono ?_
            rintro e' w' ⟨rfl, rfl⟩
            go_wp2
            refine ⟨⟨k + 1, by omega, by go_num, ?_, ?_⟩, by simp [intOf]; omega⟩
            · exact (HK.out.1.alloc HK.out.1.size _).drew
            · exact (HK.out.2.alloc _).draws 1
          · obtain rfl : k = I.nr := by omega
            have HZ : Hid (FW I b r bR wa) := F
            clear F
            go_wp2
            refine mid_intro (by kernel_rfl) ⟨⟨⟨by kernel_rfl, by kernel_rfl, by kernel_rfl, by kernel_rfl, by kernel_rfl, by kernel_rfl, by kernel_rfl, by kernel_rfl, by kernel_rfl⟩, by kernel_rfl⟩, HZ.out⟩
end Go.Proofs.Ybulkbyna

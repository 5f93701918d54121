/- The law's loop over the variables. -/
import Derived.Test.YbulkbynaLawM
import Derived.Test.YbulkbynaOrderL
namespace Go.Proofs.Ybulkbyna
open Go.ChangeShapes Go.WideShapes Go.ChangeAt Go.RowKit
set_option linter.unusedVariables false
set_option linter.unusedSimpArgs false

set_option maxRecDepth 1000000 in
set_option maxHeartbeats 4000000 in
theorem it18 {I : Inp} {b : Nat → Nat} {g : Nat → Value} {w : World} (hI : I.Ok) (hE : ∀ j, j < I.nv → (I.V j).el ≤ 300) (hb : Base I b g) (hB : Bld I b w 0 (cntOf 0 0 0)) (Rq : Ending → World → Prop) :
    (item 18).wp Yba.prog (Exit.then (Mid (fun g' w' => Base I b g' ∧ Bld I b w' I.nv (cntOf I.nv 0 0))) (bodyPost Yba.prog Yba.f3 Rq)) (Fr g) w := by
  rw [Fr_lit, hb.s0, hb.s1, hb.s2, hb.s9, hb.s10, hb.s11, hb.s12, hb.s13, hb.s14]
  have HB : Hid (Bld I b w 0 (cntOf 0 0 0)) := hB
  have HI : Hid I.Ok := hI
  have HE : Hid (∀ j, j < I.nv → (I.V j).el ≤ 300) := hE
  have hv3 := hI.v3
  have hm3 := (Inp.m3 hI).1
  have hm0 := (Inp.m3 hI).2
  have hr3 := hI.r3
  obtain ⟨i3, hi3, hz0, hz1, hz2⟩ := info_parts info3
  obtain ⟨i46, hi46, hy0, hy1, hy2⟩ := info_parts info46
  clear hb hB hI hE
  conv => arg 2; whnf
  go_wp2_with fail
  go_loopw [149] (fun i wr => ∃ k : Nat, k ≤ I.nv ∧ i = .int .i64 k ∧ Hid (Bld I b wr k (cntOf k 0 0))) (fun i _ => I.nv - (intOf i).toNat)
  case atStart => exact ⟨0, by omega, rfl, HB⟩
  case round =>
    clear HB
    obtain ⟨j, hj, rfl, HJ⟩ := hrel
    obtain ⟨w1, hw1⟩ : ∃ w1, w1 = wr := ⟨_, rfl⟩
    subst hw1
    by_cases hjn : j < I.nv
    · obtain ⟨bv, ov, hav, hbv, hcv⟩ := HI.out.vs.cells j hjn
      obtain ⟨c0, c1, c2, c3, c4⟩ := hcv j hjn
      rw [← HJ.out.bel.cell (p := ⟨bv, ov + j * 5, none⟩) hbv] at c0
      rw [← HJ.out.bel.cell (p := ⟨bv, ov + j * 5 + 1, none⟩) hbv] at c1
      rw [← HJ.out.bel.cell (p := ⟨bv, ov + j * 5 + 2, none⟩) hbv] at c2
      rw [← HJ.out.bel.cell (p := ⟨bv, ov + j * 5 + 3, none⟩) hbv] at c3
      rw [← HJ.out.bel.cell (p := ⟨bv, ov + j * 5 + 4, none⟩) hbv] at c4
      have hbv1 : bv < w1.heap.size := Nat.lt_of_lt_of_le hbv HJ.out.bel.size
      clear hcv
      have hu8 := (HI.out.vs.bd j hjn).1
      have hui : (wrap64 (I.V j).u).tmod (I.m : Int) = (((dat I).ui j : Nat) : Int) := by
        have h0 := hu8.1
        have h1 := hu8.2
        rw [show wrap64 (I.V j).u = (I.V j).u by unfold wrap64; omega]
        have e : (I.V j).u = (((I.V j).u.toNat : Nat) : Int) := by omega
        rw [e]
        show ((((I.V j).u.toNat : Nat) : Int).tmod ((I.m : Nat) : Int)) = (((((I.V j).u.toNat : Nat) : Int).toNat % I.m : Nat) : Int)
        rw [Int.toNat_natCast]
        exact (Int.ofNat_tmod _ _).symm
      have hum : (dat I).ui j < I.m := Nat.mod_lt _ hm0
      have hmz : ((I.m : Int) == 0) = false := by simp; omega
      have sS : w1.cell? ⟨b 18, 1, none⟩ = some (.slice (some ⟨b 1, 0, none⟩) I.nv I.nv) := HJ.out.solv 1
      obtain ⟨xS, dS⟩ := HJ.out.some (k := 1) (by decide) (show j < I.nv from hjn)
      have fS := HJ.out.fro (k := 1) (by decide) j
      have lS := HJ.out.lt (k := 1) (by decide)
      have l18 := HJ.out.lt (k := 18) (by decide)
      rw [hav]
      go_wp2
      have hB' : Bld I b (w1.setCell ⟨b 1, j, none⟩ (.int .i64 ((dat I).ui j))) j (upd (cntOf j 0 0) 1 (j + 1)) := HJ.out.put_eq 1 (by decide) j (by rfl) _ (by rfl)
      obtain ⟨ws, hws⟩ : ∃ ws, ws = w1.setCell ⟨b 1, j, none⟩ (.int .i64 ((dat I).ui j)) := ⟨_, rfl⟩
      have hsz : w1.heap.size = ws.heap.size := by rw [hws]; simp [World.setCell]
      rw [← hws] at hB' ⊢
      rw [hsz]
      have hP0 := blk_new ws #[.int .u8 (I.V j).u, .int .i8 (I.V j).f, .int .i8 (I.V j).z, .int .i8 (I.V j).nu, .slice (I.V j).ea (I.V j).el (I.V j).ec] 28
      have hB0 := hB'.alloc (.cells #[.int .u8 (I.V j).u, .int .i8 (I.V j).f, .int .i8 (I.V j).z, .int .i8 (I.V j).nu, .slice (I.V j).ea (I.V j).el (I.V j).ec] 28)
      obtain ⟨p, hp⟩ : ∃ p, p = ws.heap.size := ⟨_, rfl⟩
      obtain ⟨w2, hw2⟩ : ∃ w2, w2 = ws.alloc (.cells #[.int .u8 (I.V j).u, .int .i8 (I.V j).f, .int .i8 (I.V j).z, .int .i8 (I.V j).nu, .slice (I.V j).ea (I.V j).el (I.V j).ec] 28) := ⟨_, rfl⟩
      rw [← hw2, ← hp] at hP0
      rw [← hw2] at hB0
      rw [← hp, ← hw2]
      have H2 : Hid (Bld I b w2 j (upd (cntOf j 0 0) 1 (j + 1)) ∧ Blk w2 p 28 [.int .u8 (I.V j).u, .int .i8 (I.V j).f, .int .i8 (I.V j).z, .int .i8 (I.V j).nu, .slice (I.V j).ea (I.V j).el (I.V j).ec]) := ⟨hB0, hP0⟩
      clear hp hw2 hP0 hB0 HJ c0 c1 c2 c3 c4 sS xS dS fS lS l18 hws hsz hB' hbv1 ws w1
      obtain ⟨v, kk, ys, dV, hown, hkk, a4, l4, k4, rfl⟩ := H2.out.1.slot hum
      have sV : w2.cell? ⟨b 18, 4, none⟩ = some (.slice (some ⟨b 4, 0, none⟩) I.m I.m) := H2.out.1.solv 4
      have hkk' : kk ≤ 300 := by have : (upd (cntOf j 0 0) 1 (j + 1)) 4 = j := rfl; omega
      have hS : w2.drew.cell? ⟨b 18, 4, none⟩ = some (.slice (some ⟨b 4, 0, none⟩) I.m I.m) ∧ w2.drew.cell? ⟨b 4, (dat I).ui j, none⟩ = some (.slice a4 l4 k4) := ⟨sV, dV⟩
      have HO : Hid (w2.ownsRow I.w0.heap.size 3 1 (.slice a4 l4 k4) kk ys) := hown
      clear hown
      refine AnyL.region (S := fun w' => w'.cell? ⟨b 18, 4, none⟩ = some (.slice (some ⟨b 4, 0, none⟩) I.m I.m) ∧ w'.cell? ⟨b 4, (dat I).ui j, none⟩ = some (.slice a4 l4 k4)) (L := 16) (by kernel_rfl) ?_
      refine AnyL.takeW' (i := 0) (d := 166) (v := .pointer (some ⟨b 18, 0, none⟩)) rfl rfl (by kernel_rfl) (by decide) (by kernel_rfl) (by kernel_rfl) (fun _ _ _ h => h) rfl (fun w => by go_simp) hS ?_
      try simp only [Act.put, List.setIfInBounds_toArray, List.set_cons_zero, List.set_cons_succ]
      refine AnyL.takeW' (i := 1) (d := 167) (v := .pointer (some ⟨b 18, 0, none⟩)) rfl rfl (by kernel_rfl) (by decide) (by kernel_rfl) (by kernel_rfl) (fun _ _ _ h => h) rfl (fun w => by go_simp) hS ?_
      try simp only [Act.put, List.setIfInBounds_toArray, List.set_cons_zero, List.set_cons_succ]
      refine AnyL.takeW' (i := 2) (d := 168) (v := .pointer (some ⟨b 18, 4, none⟩)) rfl rfl (by kernel_rfl) (by decide) (by kernel_rfl) (by kernel_rfl) (fun _ _ _ h => h) rfl (fun w => by go_simp) hS ?_
      try simp only [Act.put, List.setIfInBounds_toArray, List.set_cons_zero, List.set_cons_succ]
      refine AnyL.take' (i := 3) (d := 169) (v := .slice (some ⟨b 4, 0, none⟩) I.m I.m) rfl rfl (by kernel_rfl) (by kernel_rfl) (by kernel_rfl) (by kernel_rfl) (by kernel_rfl) (fun _ _ _ h => h) rfl (fun w hSw => by obtain ⟨hs1, hs2⟩ := hSw; go_simp) hS ?_
      try simp only [Act.put, List.setIfInBounds_toArray, List.set_cons_zero, List.set_cons_succ]
      refine AnyL.takeW' (i := 4) (d := 170) (v := .int .i64 ((dat I).ui j)) rfl rfl (by kernel_rfl) (by decide) (by kernel_rfl) (by kernel_rfl) (fun _ _ _ h => h) rfl (fun w => by go_simp) hS ?_
      try simp only [Act.put, List.setIfInBounds_toArray, List.set_cons_zero, List.set_cons_succ]
      refine AnyL.takeW' (i := 5) (d := 171) (v := .pointer (some ⟨b 18, 0, none⟩)) rfl rfl (by kernel_rfl) (by decide) (by kernel_rfl) (by kernel_rfl) (fun _ _ _ h => h) rfl (fun w => by go_simp) hS ?_
      try simp only [Act.put, List.setIfInBounds_toArray, List.set_cons_zero, List.set_cons_succ]
      refine AnyL.takeW' (i := 6) (d := 172) (v := .pointer (some ⟨b 18, 0, none⟩)) rfl rfl (by kernel_rfl) (by decide) (by kernel_rfl) (by kernel_rfl) (fun _ _ _ h => h) rfl (fun w => by go_simp) hS ?_
      try simp only [Act.put, List.setIfInBounds_toArray, List.set_cons_zero, List.set_cons_succ]
      refine AnyL.takeW' (i := 7) (d := 173) (v := .pointer (some ⟨b 18, 4, none⟩)) rfl rfl (by kernel_rfl) (by decide) (by kernel_rfl) (by kernel_rfl) (fun _ _ _ h => h) rfl (fun w => by go_simp) hS ?_
      try simp only [Act.put, List.setIfInBounds_toArray, List.set_cons_zero, List.set_cons_succ]
      refine AnyL.take' (i := 8) (d := 174) (v := .slice (some ⟨b 4, 0, none⟩) I.m I.m) rfl rfl (by kernel_rfl) (by kernel_rfl) (by kernel_rfl) (by kernel_rfl) (by kernel_rfl) (fun _ _ _ h => h) rfl (fun w hSw => by obtain ⟨hs1, hs2⟩ := hSw; go_simp) hS ?_
      try simp only [Act.put, List.setIfInBounds_toArray, List.set_cons_zero, List.set_cons_succ]
      refine AnyL.takeW' (i := 9) (d := 175) (v := .int .i64 ((dat I).ui j)) rfl rfl (by kernel_rfl) (by decide) (by kernel_rfl) (by kernel_rfl) (fun _ _ _ h => h) rfl (fun w => by go_simp) hS ?_
      try simp only [Act.put, List.setIfInBounds_toArray, List.set_cons_zero, List.set_cons_succ]
      refine AnyL.takeW' (i := 10) (d := 176) (v := .pointer (some ⟨b 4, (dat I).ui j, none⟩)) rfl rfl (by kernel_rfl) (by decide) (by kernel_rfl) (by kernel_rfl) (fun _ _ _ h => h) rfl (fun w => by go_simp) hS ?_
      try simp only [Act.put, List.setIfInBounds_toArray, List.set_cons_zero, List.set_cons_succ]
      refine AnyL.take' (i := 11) (d := 177) (v := .slice a4 l4 k4) rfl rfl (by kernel_rfl) (by kernel_rfl) (by kernel_rfl) (by kernel_rfl) (by kernel_rfl) (fun _ _ _ h => h) rfl (fun w hSw => by obtain ⟨hs1, hs2⟩ := hSw; go_simp) hS ?_
      try simp only [Act.put, List.setIfInBounds_toArray, List.set_cons_zero, List.set_cons_succ]
      refine AnyL.takeW' (i := 12) (d := 178) (v := .int .i64 j) rfl rfl (by kernel_rfl) (by decide) (by kernel_rfl) (by kernel_rfl) (fun _ _ _ h => h) rfl (fun w => by go_simp) hS ?_
      try simp only [Act.put, List.setIfInBounds_toArray, List.set_cons_zero, List.set_cons_succ]
      refine AnyL.one (i := 13) (by kernel_rfl) rfl rfl (fun K hK => ?_)
      go_simp
      have hbelA : Below w2.heap.size w2 (w2.alloc (.cells #[.int .i64 j] 3)).drew := ((Below.refl _ _).alloc (Nat.le_refl _) _).drew
      have sVA : (w2.alloc (.cells #[.int .i64 j] 3)).drew.cell? ⟨b 18, 4, none⟩ = some (.slice (some ⟨b 4, 0, none⟩) I.m I.m) := by rw [hbelA.cell (p := ⟨b 18, 4, none⟩) (H2.out.1.lt (k := 18) (by decide))]; exact sV
      have dVA : (w2.alloc (.cells #[.int .i64 j] 3)).drew.cell? ⟨b 4, (dat I).ui j, none⟩ = some (.slice a4 l4 k4) := by rw [hbelA.cell (p := ⟨b 4, (dat I).ui j, none⟩) (H2.out.1.lt (k := 4) (by decide))]; exact dV
      have hBA := (H2.out.1.alloc (.cells #[.int .i64 j] 3)).draws 1
      have hPA := (H2.out.2.alloc (.cells #[.int .i64 j] 3)).draws 1
      have hOA : (w2.alloc (.cells #[.int .i64 j] 3)).drew.ownsRow I.w0.heap.size 3 1 (.slice a4 l4 k4) kk ys := own_keep HO.out (fun g cur _ hc => by show (w2.alloc _).heap[g]? = _; rw [Below.heap_alloc w2 _ g (Array.getElem?_eq_some_iff.1 hc).1]; exact hc)
      have hQA := (blk_new w2 #[.int .i64 j] 3).draws 1
      refine hK.out _ _ (fun h => ⟨sVA, dVA⟩) ?_
      obtain ⟨qq, hqq⟩ : ∃ qq, qq = w2.heap.size := ⟨_, rfl⟩
      obtain ⟨wA, hwA⟩ : ∃ wA, wA = (w2.alloc (.cells #[.int .i64 j] 3)).drew := ⟨_, rfl⟩
      rw [← hwA] at sVA dVA hOA ⊢
      rw [World.drew_is_drewN] at hwA
      rw [← hwA] at hBA hPA hQA
      rw [← hqq] at hQA ⊢
      have HA : Hid (Bld I b wA j (upd (cntOf j 0 0) 1 (j + 1)) ∧ Blk wA p 28 [.int .u8 (I.V j).u, .int .i8 (I.V j).f, .int .i8 (I.V j).z, .int .i8 (I.V j).nu, .slice (I.V j).ea (I.V j).el (I.V j).ec]) := ⟨hBA, hPA⟩
      have zQ : wA.cell? ⟨qq, 0, none⟩ = some (.int .i64 j) := hQA.cell 0
      clear hK K hS hwA hqq hbelA hBA hPA hQA H2 HO sV dV w2
      obtain ⟨v', w3, hrun, ho', hgr, _, hat⟩ := run_append_own_at (P := Yba.prog) wA I.w0.heap.size 32 32 3 i3 (.int .i64 0) 1 8 Yba.underlying32 hi3 hz0 hz1 hz2 rfl (by omega) (.slice a4 l4 k4) kk ys hOA ⟨qq, 0, none⟩ 1 1 [.int .i64 j] rfl (fun n u hu => by
        cases n with
        | zero => simp at hu; rw [← hu]; exact zQ
        | succ n => simp at hu) (by simp [Value.oneCell']) (by unfold maxLen; omega) (by omega) HA.out.1.bel.size
      refine AnyL.one (i := 14) (by kernel_rfl) rfl rfl (fun K hK => ?_)
      have sV3 : w3.cell? ⟨b 18, 4, none⟩ = some (.slice (some ⟨b 4, 0, none⟩) I.m I.m) := by rw [(HA.out.1.kept hum dVA hgr (k := 18) (by decide) (by decide) 4).1]; exact sVA
      have dV3 : w3.cell? ⟨b 4, (dat I).ui j, none⟩ = some (.slice a4 l4 k4) := by rw [(HA.out.1.kept hum dVA hgr (k := 4) (by decide) (by decide) _).1]; exact dVA
      have f3 := (HA.out.1.kept hum dVA hgr (k := 4) (by decide) (by decide) ((dat I).ui j)).2
      refine op_append (.tmp 177) (.tmp 179) 32 rfl (.slice a4 l4 k4) (.slice (some ⟨qq, 0, none⟩) 1 1) rfl rfl v' w3 hrun ?_
      refine hK.out _ _ (fun h => ⟨sV3, dV3⟩) ?_
      clear hK K hrun
      simp only [Act.put, List.setIfInBounds_toArray, List.set_cons_zero, List.set_cons_succ]
      refine AnyL.one (i := 15) (by kernel_rfl) rfl rfl (fun K hK => ?_)
      go_simp
      refine hK.out _ _ (fun h => ⟨sV3, dV3⟩) ?_
      clear hK K
      refine AnyL.one (i := 16) (by kernel_rfl) rfl rfl (fun K hK => ?_)
      obtain ⟨a5, l5, k5, rfl⟩ := own_slice ho'
      go_simp
      refine hK.out _ _ (fun h => by cases h) ?_
      clear hK K
      refine AnyL.done (by kernel_rfl) ?_
      have hB' : Bld I b (w3.setCell ⟨b 4, (dat I).ui j, none⟩ (.slice a5 l5 k5)) j (upd (upd (cntOf j 0 0) 1 (j + 1)) 4 (j + 1)) := HA.out.1.grow hum dVA ho' (Nat.succ_le_succ hkk) hgr hat
      have hP' : Blk (w3.setCell ⟨b 4, (dat I).ui j, none⟩ (.slice a5 l5 k5)) p 28 [.int .u8 (I.V j).u, .int .i8 (I.V j).f, .int .i8 (I.V j).z, .int .i8 (I.V j).nu, .slice (I.V j).ea (I.V j).el (I.V j).ec] := (HA.out.2.grown hgr (HA.out.1.own_ty hum dVA HA.out.2 (by decide))).other (HA.out.1.apart_ty (k := 4) (by decide) HA.out.2 (by decide)) _ _
      obtain ⟨w4, hw4⟩ : ∃ w4, w4 = w3.setCell ⟨b 4, (dat I).ui j, none⟩ (.slice a5 l5 k5) := ⟨_, rfl⟩
      rw [← hw4] at hB' hP' ⊢
      have H4 : Hid (Bld I b w4 j (upd (upd (cntOf j 0 0) 1 (j + 1)) 4 (j + 1)) ∧ Blk w4 p 28 [.int .u8 (I.V j).u, .int .i8 (I.V j).f, .int .i8 (I.V j).z, .int .i8 (I.V j).nu, .slice (I.V j).ea (I.V j).el (I.V j).ec]) := ⟨hB', hP'⟩
      clear hw4 hB' hP' HA sVA dVA sV3 dV3 f3 ho' hgr hat zQ hOA w3 wA hkk hkk' ys
      go_wp2
      have sS : w4.cell? ⟨b 18, 2, none⟩ = some (.slice (some ⟨b 2, 0, none⟩) I.nv I.nv) := H4.out.1.solv 2
      obtain ⟨xS, dS⟩ := H4.out.1.some (k := 2) (by decide) (show j < I.nv from hjn)
      have fS := H4.out.1.fro (k := 2) (by decide) j
      have pS : w4.cell? ⟨p, 1, none⟩ = some (.int .i8 (I.V j).f) := H4.out.2.cell 1
      have lS := H4.out.1.lt (k := 2) (by decide)
      have l18 := H4.out.1.lt (k := 18) (by decide)
      have lp := H4.out.2.lt
      go_big_region
      go_wp2
      have hB' : Bld I b ((w4.setCell ⟨b 2, j, none⟩ (.float .f64 (floatOfInt .f64 (I.V j).f))).drew) j (upd (upd (upd (cntOf j 0 0) 1 (j + 1)) 4 (j + 1)) 2 (j + 1)) := (H4.out.1.put_eq 2 (by decide) j (by rfl) _ (rfl)).draws 1
      have hP' : Blk ((w4.setCell ⟨b 2, j, none⟩ (.float .f64 (floatOfInt .f64 (I.V j).f))).drew) p 28 [.int .u8 (I.V j).u, .int .i8 (I.V j).f, .int .i8 (I.V j).z, .int .i8 (I.V j).nu, .slice (I.V j).ea (I.V j).el (I.V j).ec] := (H4.out.2.other (H4.out.1.apart_ty (k := 2) (by decide) H4.out.2 (by decide)) j _).draws 1
      obtain ⟨w5, hw'⟩ : ∃ w5, w5 = ((w4.setCell ⟨b 2, j, none⟩ (.float .f64 (floatOfInt .f64 (I.V j).f))).drew) := ⟨_, rfl⟩
      rw [← hw'] at hB' hP' ⊢
      have H5 : Hid (Bld I b w5 j (upd (upd (upd (cntOf j 0 0) 1 (j + 1)) 4 (j + 1)) 2 (j + 1)) ∧ Blk w5 p 28 [.int .u8 (I.V j).u, .int .i8 (I.V j).f, .int .i8 (I.V j).z, .int .i8 (I.V j).nu, .slice (I.V j).ea (I.V j).el (I.V j).ec]) := ⟨hB', hP'⟩
      clear hw' hP' hB' H4 sS dS fS pS lS l18 lp xS w4
      have sS : w5.cell? ⟨b 18, 11, none⟩ = some (.slice (some ⟨b 11, 0, none⟩) I.nv I.nv) := H5.out.1.solv 11
      obtain ⟨xS, dS⟩ := H5.out.1.some (k := 11) (by decide) (show j < I.nv from hjn)
      have fS := H5.out.1.fro (k := 11) (by decide) j
      have pS : w5.cell? ⟨p, 2, none⟩ = some (.int .i8 (I.V j).z) := H5.out.2.cell 2
      have lS := H5.out.1.lt (k := 11) (by decide)
      have l18 := H5.out.1.lt (k := 18) (by decide)
      have lp := H5.out.2.lt
      go_big_region
      go_wp2
      have hB' : Bld I b ((w5.setCell ⟨b 11, j, none⟩ (.float .f64 (floatOfInt .f64 (I.V j).z))).drew) j (upd (upd (upd (upd (cntOf j 0 0) 1 (j + 1)) 4 (j + 1)) 2 (j + 1)) 11 (j + 1)) := (H5.out.1.put_eq 11 (by decide) j (by rfl) _ (rfl)).draws 1
      have hP' : Blk ((w5.setCell ⟨b 11, j, none⟩ (.float .f64 (floatOfInt .f64 (I.V j).z))).drew) p 28 [.int .u8 (I.V j).u, .int .i8 (I.V j).f, .int .i8 (I.V j).z, .int .i8 (I.V j).nu, .slice (I.V j).ea (I.V j).el (I.V j).ec] := (H5.out.2.other (H5.out.1.apart_ty (k := 11) (by decide) H5.out.2 (by decide)) j _).draws 1
      obtain ⟨w6, hw'⟩ : ∃ w6, w6 = ((w5.setCell ⟨b 11, j, none⟩ (.float .f64 (floatOfInt .f64 (I.V j).z))).drew) := ⟨_, rfl⟩
      rw [← hw'] at hB' hP' ⊢
      have H6 : Hid (Bld I b w6 j (upd (upd (upd (upd (cntOf j 0 0) 1 (j + 1)) 4 (j + 1)) 2 (j + 1)) 11 (j + 1)) ∧ Blk w6 p 28 [.int .u8 (I.V j).u, .int .i8 (I.V j).f, .int .i8 (I.V j).z, .int .i8 (I.V j).nu, .slice (I.V j).ea (I.V j).el (I.V j).ec]) := ⟨hB', hP'⟩
      clear hw' hP' hB' H5 sS dS fS pS lS l18 lp xS w5
      have sS : w6.cell? ⟨b 18, 12, none⟩ = some (.slice (some ⟨b 12, 0, none⟩) I.nv I.nv) := H6.out.1.solv 12
      obtain ⟨xS, dS⟩ := H6.out.1.some (k := 12) (by decide) (show j < I.nv from hjn)
      have fS := H6.out.1.fro (k := 12) (by decide) j
      have pS : w6.cell? ⟨p, 3, none⟩ = some (.int .i8 (I.V j).nu) := H6.out.2.cell 3
      have lS := H6.out.1.lt (k := 12) (by decide)
      have l18 := H6.out.1.lt (k := 18) (by decide)
      have lp := H6.out.2.lt
      go_big_region
      have hB' : Bld I b ((w6.setCell ⟨b 12, j, none⟩ (.float .f64 (floatOfInt .f64 (I.V j).nu))).drew) j (upd (upd (upd (upd (upd (cntOf j 0 0) 1 (j + 1)) 4 (j + 1)) 2 (j + 1)) 11 (j + 1)) 12 (j + 1)) := (H6.out.1.put_eq 12 (by decide) j (by rfl) _ (rfl)).draws 1
      have hP' : Blk ((w6.setCell ⟨b 12, j, none⟩ (.float .f64 (floatOfInt .f64 (I.V j).nu))).drew) p 28 [.int .u8 (I.V j).u, .int .i8 (I.V j).f, .int .i8 (I.V j).z, .int .i8 (I.V j).nu, .slice (I.V j).ea (I.V j).el (I.V j).ec] := (H6.out.2.other (H6.out.1.apart_ty (k := 12) (by decide) H6.out.2 (by decide)) j _).draws 1
      obtain ⟨w7, hw'⟩ : ∃ w7, w7 = ((w6.setCell ⟨b 12, j, none⟩ (.float .f64 (floatOfInt .f64 (I.V j).nu))).drew) := ⟨_, rfl⟩
      rw [← hw'] at hB' hP' ⊢
      have H7 : Hid (Bld I b w7 j (upd (upd (upd (upd (upd (cntOf j 0 0) 1 (j + 1)) 4 (j + 1)) 2 (j + 1)) 11 (j + 1)) 12 (j + 1)) ∧ Blk w7 p 28 [.int .u8 (I.V j).u, .int .i8 (I.V j).f, .int .i8 (I.V j).z, .int .i8 (I.V j).nu, .slice (I.V j).ea (I.V j).el (I.V j).ec]) := ⟨hB', hP'⟩
      clear hw' hP' hB' H6 sS dS fS pS lS l18 lp xS w6
      have H8 : Hid (Bld I b w7 j (cntOf (j + 1) 0 0) ∧ Blk w7 p 28 [.int .u8 (I.V j).u, .int .i8 (I.V j).f, .int .i8 (I.V j).z, .int .i8 (I.V j).nu, .slice (I.V j).ea (I.V j).el (I.V j).ec]) := ⟨H7.out.1.congr _ (by
        intro q hq
        simp only [TT, List.mem_cons, List.not_mem_nil, or_false] at hq
        rcases hq with rfl | rfl | rfl | rfl | rfl | rfl | rfl | rfl | rfl | rfl | rfl | rfl <;> rfl), H7.out.2⟩
      clear H7
      have hel := HE.out j hjn
      by_cases hnr : I.nr = 0
      · have e0 : decide (0 < (I.nr : Int)) = false := by simp; omega
        go_wp2
        exact ⟨⟨j + 1, by omega, by go_num, H8.out.1.next0 hnr⟩, by simp [intOf]; omega⟩
      · have e0 : decide (0 < (I.nr : Int)) = true := by simp; omega
        have p4 : w7.cell? ⟨p, 4, none⟩ = some (.slice (I.V j).ea (I.V j).el (I.V j).ec) := H8.out.2.cell 4
        have lp := H8.out.2.lt
        have hbb : i46.bytes * (I.V j).el ≤ 281474976710656 := by rw [hy2]; omega
        have hbm : (I.V j).el ≤ maxLen := by unfold maxLen; omega
        go_wp2_with (at_make; refine wpList_make_full _ rfl (.tmp 215) (.tmp 215) 42 rfl w7.heap.size 46 i46 _ 2 Yba.underlying42 hi46 hy0 hy1 _ _ _ _ (I.V j).el rfl rfl rfl rfl hbb hbm (Nat.le_refl _) ?_; intro w8 ho8 hg8; have hQ8 := (Blk.made ho8).1; have hb8 : Below w7.heap.size w7 w8 := (Below.refl _ _).grown hg8 (Nat.le_refl _) (fun k h => by cases h); have p48 : w8.cell? ⟨p, 4, none⟩ = some (.slice (I.V j).ea (I.V j).el (I.V j).ec) := (by rw [hb8.cell (p := ⟨p, 4, none⟩) lp]; exact p4))
        clear p4
        have hT8 : Tab ((I.V j).el * 2) 0 (eVal I j) (madeCells (Value.agg #[.int .i64 0, .float .f64 0]).cells ((I.V j).el * 2)).toList := ⟨by simp [madeCells], fun j hj => absurd hj (Nat.not_lt_zero _)⟩
        obtain ⟨q, hq⟩ : ∃ q, q = w7.heap.size := ⟨_, rfl⟩
        have H9 : Hid (Below w7.heap.size w7 w8 ∧ ∃ xs, Blk w8 q 46 xs ∧ Tab ((I.V j).el * 2) (0 * 2) (eVal I j) xs) := ⟨hb8, _, by rw [hq]; exact hQ8, hT8⟩
        rw [← hq]
        have HQ : Hid (q = w7.heap.size) := hq
        clear hq hT8 hQ8 hb8 ho8 hg8 p48 hbb hbm lp
        go_loopw [220] (fun i wr => ∃ e : Nat, e ≤ (I.V j).el ∧ i = .int .i64 e ∧ Hid (Below w7.heap.size w7 wr ∧ ∃ xs, Blk wr q 46 xs ∧ Tab ((I.V j).el * 2) (e * 2) (eVal I j) xs)) (fun i _ => (I.V j).el - (intOf i).toNat)
        case atStart => exact ⟨0, by omega, rfl, H9⟩
        case round =>
          clear H9
          obtain ⟨e, he, rfl, HK⟩ := hrel
          obtain ⟨wa, hwa⟩ : ∃ wa, wa = wr := ⟨_, rfl⟩
          subst hwa
          by_cases hee : e < (I.V j).el
          · obtain ⟨be, oe, hea, hbe, hce⟩ := (HI.out.vs.ents j hjn).cells e hee
            obtain ⟨c0, c1⟩ := hce e hee
            have hbel : Below I.w0.heap.size I.w0 wa := H8.out.1.bel.trans (HK.out.1.mono H8.out.1.bel.size)
            rw [← hbel.cell (p := ⟨be, oe + e * 2, none⟩) hbe] at c0
            rw [← hbel.cell (p := ⟨be, oe + e * 2 + 1, none⟩) hbe] at c1
            have hbe1 : be < wa.heap.size := Nat.lt_of_lt_of_le hbe hbel.size
            clear hce hbel
            have hu8' := ((HI.out.vs.ents j hjn).bd e hee).1
            have hri : (wrap64 ((I.V j).E e).1).tmod (I.nr : Int) = (((dat I).ri j e : Nat) : Int) := by
              have h0 := hu8'.1
              have h1 := hu8'.2
              rw [show wrap64 ((I.V j).E e).1 = ((I.V j).E e).1 by unfold wrap64; omega]
              have e1 : ((I.V j).E e).1 = ((((I.V j).E e).1.toNat : Nat) : Int) := by omega
              rw [e1]
              show (((((I.V j).E e).1.toNat : Nat) : Int).tmod ((I.nr : Nat) : Int)) = ((((((I.V j).E e).1.toNat : Nat) : Int).toNat % I.nr : Nat) : Int)
              rw [Int.toNat_natCast]
              exact (Int.ofNat_tmod _ _).symm
            have hnz : ((I.nr : Int) == 0) = false := by simp; omega
            rw [hea]
            go_wp2
            obtain ⟨hK1, xs, hK2, hK3⟩ := HK.out
            have hP0 := blk_new wa #[.int .u8 ((I.V j).E e).1, .int .i8 ((I.V j).E e).2] 44
            have hB0 : Below w7.heap.size w7 (wa.alloc (.cells #[.int .u8 ((I.V j).E e).1, .int .i8 ((I.V j).E e).2] 44)) := hK1.alloc hK1.size _
            have hQ0 := hK2.alloc (.cells #[.int .u8 ((I.V j).E e).1, .int .i8 ((I.V j).E e).2] 44)
            obtain ⟨p2, hp2⟩ : ∃ p2, p2 = wa.heap.size := ⟨_, rfl⟩
            obtain ⟨wb, hwb⟩ : ∃ wb, wb = wa.alloc (.cells #[.int .u8 ((I.V j).E e).1, .int .i8 ((I.V j).E e).2] 44) := ⟨_, rfl⟩
            rw [← hwb, ← hp2] at hP0
            rw [← hwb] at hB0 hQ0
            rw [← hp2, ← hwb]
            have z0 : wb.cell? ⟨p2, 0, none⟩ = some (.int .u8 ((I.V j).E e).1) := hP0.cell 0
            have z1 : wb.cell? ⟨p2, 1, none⟩ = some (.int .i8 ((I.V j).E e).2) := hP0.cell 1
            have zl := hP0.lt
            obtain ⟨y0, hy0'⟩ := hK3.some (e * 2) (by omega)
            obtain ⟨y1, hy1'⟩ := hK3.some (e * 2 + 1) (by omega)
            have z2 : wb.cell? ⟨q, e * 2, none⟩ = some y0 := by rw [hQ0.cell]; exact hy0'
            have z3 : wb.cell? ⟨q, e * 2 + 1, none⟩ = some y1 := by rw [hQ0.cell]; exact hy1'
            have f2 := hQ0.frozen (e * 2)
            have f3 := hQ0.frozen (e * 2 + 1)
            have ql := hQ0.lt
            have HN : Hid (Below w7.heap.size w7 wb ∧ Blk wb q 46 xs ∧ Tab ((I.V j).el * 2) (e * 2) (eVal I j) xs) := ⟨hB0, hQ0, hK3⟩
            clear hp2 hwb hP0 hB0 hQ0 hK1 hK2 hK3 hy0' hy1' HK c0 c1 hbe1 wa
            go_big_region
            go_wp2
            refine ⟨⟨e + 1, by omega, by go_num, ?_, ?_⟩, by simp [intOf]; omega⟩
            · exact ((HN.out.1.setCell (p := ⟨q, e * 2, none⟩) (Nat.le_of_eq HQ.out.symm) _).setCell (p := ⟨q, e * 2 + 1, none⟩) (Nat.le_of_eq HQ.out.symm) _).drew
            · refine ⟨_, ((HN.out.2.1.set (e * 2) _).set (e * 2 + 1) _).draws 1, ?_⟩
              have h1 := HN.out.2.2.set.set
              rw [eVal_even, eVal_odd] at h1
              rw [show (e + 1) * 2 = e * 2 + 1 + 1 by omega]
              exact h1
          · obtain rfl : e = (I.V j).el := by omega
            obtain ⟨hK1, xs, hK2, hK3⟩ := HK.out
            rw [hK3.eq] at hK2
            have H9 : Hid (Bld I b wa j (cntOf (j + 1) 0 0) ∧ Blk wa q 46 (eCells I j (I.V j).el)) := ⟨H8.out.1.below hK1, hK2⟩
            clear hK1 hK2 hK3 HK H8 HQ
            have sS : wa.cell? ⟨b 18, 3, none⟩ = some (.slice (some ⟨b 3, 0, none⟩) I.nv I.nv) := H9.out.1.solv 3
            obtain ⟨xS, dS⟩ := H9.out.1.some3 hjn
            have fS := H9.out.1.fro (k := 3) (by decide) j
            have lS := H9.out.1.lt (k := 3) (by decide)
            have l18 := H9.out.1.lt (k := 18) (by decide)
            go_wp2
            exact ⟨⟨j + 1, by omega, by go_num, H9.out.1.column (by omega) hjn H9.out.2⟩, by simp [intOf]; omega⟩
    · obtain rfl : j = I.nv := by omega
      go_wp2
      refine mid_intro (by kernel_rfl) ⟨⟨by kernel_rfl, by kernel_rfl, by kernel_rfl, by kernel_rfl, by kernel_rfl, by kernel_rfl, by kernel_rfl, by kernel_rfl, by kernel_rfl⟩, HJ.out⟩
end Go.Proofs.Ybulkbyna

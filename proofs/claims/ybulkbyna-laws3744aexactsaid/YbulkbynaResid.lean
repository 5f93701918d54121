/- '(*solver).residuals': the walk. -/
import Derived.Test.YbulkbynaResidP
namespace Go.Proofs.Ybulkbyna
open Go.ChangeShapes Go.WideShapes Go.ChangeAt Go.RowKit
set_option linter.unusedVariables false
set_option linter.unusedSimpArgs false

set_option maxRecDepth 100000 in
set_option maxHeartbeats 4000000 in
theorem residuals_any (S : Nat) (b : Nat → Nat) (D : Dat) (w : World) (V : Slv w S b D) :
    Calls Yba.prog 7 #[.pointer (some ⟨S, 0, none⟩), .slice (some ⟨b 17, 0, none⟩) D.m D.m] w fun e w' => ∃ b' c', e = .returned (.agg #[.slice (some ⟨b' 20, 0, none⟩) D.n D.n, .slice (some ⟨b' 21, 0, none⟩) D.n D.n, .slice (some ⟨b' 22, 0, none⟩) D.nr D.nr, .slice (some ⟨b' 23, 0, none⟩) D.m D.m]) ∧ Mem [20, 21, 22, 23] b' c' w w' ∧ RowP D.n (RdR D) (c' 20) ∧ RowP D.n (ScR D) (c' 21) ∧ RowP D.nr (fun k x => x = rpOf D k) (c' 22) ∧ RowP D.m (fun i x => x = rcOf D i) (c' 23) := by
  have s0 := V.s0
  have s3 := V.s3
  have s4 := V.s4
  have s7 := V.s7
  have s11 := V.s11
  have hSl := V.lt.1
  have HV : Hid (Slv w S b D) := V
  obtain ⟨i0, hi, hz0, hz1, hz2⟩ := info_parts info41
  have hbn : i0.bytes * D.n ≤ 281474976710656 := by rw [hz2]; have := V.n3; omega
  have hbm : i0.bytes * D.m ≤ 281474976710656 := by rw [hz2]; have := V.m3; omega
  have hbn' : D.n ≤ maxLen := by unfold maxLen; have := V.n3; omega
  have hbm' : D.m ≤ maxLen := by unfold maxLen; have := V.m3; omega
  clear V
  go_enter Yba.func7, Yba.ntmps7
  go_wp2_with fail
  obtain ⟨wd, hwd⟩ : ∃ wd, wd = w.alloc (.cells #[.slice none 0 0, .slice none 0 0, .slice none 0 0, .slice none 0 0] 51) := ⟨_, rfl⟩
  rw [← hwd]
  have hB : Below w.heap.size w wd := by rw [hwd]; exact (Below.refl _ w).alloc (Nat.le_refl _) _
  have hS : wd.drew.cell? ⟨S, 0, none⟩ = some (.int .i64 D.n) ∧ wd.drew.cell? ⟨S, 3, none⟩ = some (.slice (some ⟨b 3, 0, none⟩) D.n D.n) ∧ wd.drew.cell? ⟨S, 4, none⟩ = some (.slice (some ⟨b 4, 0, none⟩) D.m D.m) ∧ wd.drew.cell? ⟨S, 7, none⟩ = some (.int .i64 D.nr) ∧ wd.drew.cell? ⟨S, 11, none⟩ = some (.slice (some ⟨b 11, 0, none⟩) D.n D.n) :=
    ⟨by show wd.cell? _ = _; rw [hB.cell (p := ⟨S, 0, none⟩) hSl]; exact s0, by show wd.cell? _ = _; rw [hB.cell (p := ⟨S, 3, none⟩) hSl]; exact s3, by show wd.cell? _ = _; rw [hB.cell (p := ⟨S, 4, none⟩) hSl]; exact s4, by show wd.cell? _ = _; rw [hB.cell (p := ⟨S, 7, none⟩) hSl]; exact s7, by show wd.cell? _ = _; rw [hB.cell (p := ⟨S, 11, none⟩) hSl]; exact s11⟩
  refine AnyL.region (S := fun w' => w'.cell? ⟨S, 0, none⟩ = some (.int .i64 D.n) ∧ w'.cell? ⟨S, 3, none⟩ = some (.slice (some ⟨b 3, 0, none⟩) D.n D.n) ∧ w'.cell? ⟨S, 4, none⟩ = some (.slice (some ⟨b 4, 0, none⟩) D.m D.m) ∧ w'.cell? ⟨S, 7, none⟩ = some (.int .i64 D.nr) ∧ w'.cell? ⟨S, 11, none⟩ = some (.slice (some ⟨b 11, 0, none⟩) D.n D.n)) (L := 32) (by kernel_rfl) ?_
  refine AnyL.takeW' (i := 0) (d := 15) (v := .pointer (some ⟨S, 0, none⟩)) rfl rfl (by kernel_rfl) (by decide) (by kernel_rfl) (by kernel_rfl) (fun _ _ _ h => h) rfl (fun w => by go_simp) hS ?_
  try simp only [Act.put, List.setIfInBounds_toArray, List.set_cons_zero, List.set_cons_succ]
  refine AnyL.takeW' (i := 1) (d := 16) (v := .pointer (some ⟨S, 0, none⟩)) rfl rfl (by kernel_rfl) (by decide) (by kernel_rfl) (by kernel_rfl) (fun _ _ _ h => h) rfl (fun w => by go_simp) hS ?_
  try simp only [Act.put, List.setIfInBounds_toArray, List.set_cons_zero, List.set_cons_succ]
  refine AnyL.takeW' (i := 2) (d := 17) (v := .pointer (some ⟨S, 0, none⟩)) rfl rfl (by kernel_rfl) (by decide) (by kernel_rfl) (by kernel_rfl) (fun _ _ _ h => h) rfl (fun w => by go_simp) hS ?_
  try simp only [Act.put, List.setIfInBounds_toArray, List.set_cons_zero, List.set_cons_succ]
  refine AnyL.take' (i := 3) (d := 18) (v := .int .i64 D.n) rfl rfl (by kernel_rfl) (by kernel_rfl) (by kernel_rfl) (by kernel_rfl) (by kernel_rfl) (fun _ _ _ h => h) rfl (fun w hSw => by obtain ⟨hs1, hs2, hs3, hs4, hs5⟩ := hSw; go_simp) hS ?_
  try simp only [Act.put, List.setIfInBounds_toArray, List.set_cons_zero, List.set_cons_succ]
  refine AnyL.takeW' (i := 5) (d := 20) (v := .pointer (some ⟨S, 0, none⟩)) rfl rfl (by kernel_rfl) (by decide) (by kernel_rfl) (by kernel_rfl) (fun _ _ _ h => h) rfl (fun w => by go_simp) hS ?_
  try simp only [Act.put, List.setIfInBounds_toArray, List.set_cons_zero, List.set_cons_succ]
  refine AnyL.takeW' (i := 6) (d := 21) (v := .pointer (some ⟨S, 0, none⟩)) rfl rfl (by kernel_rfl) (by decide) (by kernel_rfl) (by kernel_rfl) (fun _ _ _ h => h) rfl (fun w => by go_simp) hS ?_
  try simp only [Act.put, List.setIfInBounds_toArray, List.set_cons_zero, List.set_cons_succ]
  refine AnyL.takeW' (i := 7) (d := 22) (v := .pointer (some ⟨S, 0, none⟩)) rfl rfl (by kernel_rfl) (by decide) (by kernel_rfl) (by kernel_rfl) (fun _ _ _ h => h) rfl (fun w => by go_simp) hS ?_
  try simp only [Act.put, List.setIfInBounds_toArray, List.set_cons_zero, List.set_cons_succ]
  refine AnyL.take' (i := 8) (d := 23) (v := .int .i64 D.n) rfl rfl (by kernel_rfl) (by kernel_rfl) (by kernel_rfl) (by kernel_rfl) (by kernel_rfl) (fun _ _ _ h => h) rfl (fun w hSw => by obtain ⟨hs1, hs2, hs3, hs4, hs5⟩ := hSw; go_simp) hS ?_
  try simp only [Act.put, List.setIfInBounds_toArray, List.set_cons_zero, List.set_cons_succ]
  refine AnyL.takeW' (i := 10) (d := 25) (v := .pointer (some ⟨S, 0, none⟩)) rfl rfl (by kernel_rfl) (by decide) (by kernel_rfl) (by kernel_rfl) (fun _ _ _ h => h) rfl (fun w => by go_simp) hS ?_
  try simp only [Act.put, List.setIfInBounds_toArray, List.set_cons_zero, List.set_cons_succ]
  refine AnyL.takeW' (i := 11) (d := 26) (v := .pointer (some ⟨S, 0, none⟩)) rfl rfl (by kernel_rfl) (by decide) (by kernel_rfl) (by kernel_rfl) (fun _ _ _ h => h) rfl (fun w => by go_simp) hS ?_
  try simp only [Act.put, List.setIfInBounds_toArray, List.set_cons_zero, List.set_cons_succ]
  refine AnyL.takeW' (i := 12) (d := 27) (v := .pointer (some ⟨S, 3, none⟩)) rfl rfl (by kernel_rfl) (by decide) (by kernel_rfl) (by kernel_rfl) (fun _ _ _ h => h) rfl (fun w => by go_simp) hS ?_
  try simp only [Act.put, List.setIfInBounds_toArray, List.set_cons_zero, List.set_cons_succ]
  refine AnyL.take' (i := 13) (d := 28) (v := .slice (some ⟨b 3, 0, none⟩) D.n D.n) rfl rfl (by kernel_rfl) (by kernel_rfl) (by kernel_rfl) (by kernel_rfl) (by kernel_rfl) (fun _ _ _ h => h) rfl (fun w hSw => by obtain ⟨hs1, hs2, hs3, hs4, hs5⟩ := hSw; go_simp) hS ?_
  try simp only [Act.put, List.setIfInBounds_toArray, List.set_cons_zero, List.set_cons_succ]
  refine AnyL.takeW' (i := 14) (d := 29) (v := .pointer (some ⟨S, 0, none⟩)) rfl rfl (by kernel_rfl) (by decide) (by kernel_rfl) (by kernel_rfl) (fun _ _ _ h => h) rfl (fun w => by go_simp) hS ?_
  try simp only [Act.put, List.setIfInBounds_toArray, List.set_cons_zero, List.set_cons_succ]
  refine AnyL.takeW' (i := 15) (d := 30) (v := .pointer (some ⟨S, 0, none⟩)) rfl rfl (by kernel_rfl) (by decide) (by kernel_rfl) (by kernel_rfl) (fun _ _ _ h => h) rfl (fun w => by go_simp) hS ?_
  try simp only [Act.put, List.setIfInBounds_toArray, List.set_cons_zero, List.set_cons_succ]
  refine AnyL.takeW' (i := 16) (d := 31) (v := .pointer (some ⟨S, 7, none⟩)) rfl rfl (by kernel_rfl) (by decide) (by kernel_rfl) (by kernel_rfl) (fun _ _ _ h => h) rfl (fun w => by go_simp) hS ?_
  try simp only [Act.put, List.setIfInBounds_toArray, List.set_cons_zero, List.set_cons_succ]
  refine AnyL.take' (i := 17) (d := 32) (v := .int .i64 D.nr) rfl rfl (by kernel_rfl) (by kernel_rfl) (by kernel_rfl) (by kernel_rfl) (by kernel_rfl) (fun _ _ _ h => h) rfl (fun w hSw => by obtain ⟨hs1, hs2, hs3, hs4, hs5⟩ := hSw; go_simp) hS ?_
  try simp only [Act.put, List.setIfInBounds_toArray, List.set_cons_zero, List.set_cons_succ]
  refine AnyL.takeW' (i := 18) (d := 33) (v := .pointer (some ⟨S, 0, none⟩)) rfl rfl (by kernel_rfl) (by decide) (by kernel_rfl) (by kernel_rfl) (fun _ _ _ h => h) rfl (fun w => by go_simp) hS ?_
  try simp only [Act.put, List.setIfInBounds_toArray, List.set_cons_zero, List.set_cons_succ]
  refine AnyL.takeW' (i := 19) (d := 34) (v := .pointer (some ⟨S, 0, none⟩)) rfl rfl (by kernel_rfl) (by decide) (by kernel_rfl) (by kernel_rfl) (fun _ _ _ h => h) rfl (fun w => by go_simp) hS ?_
  try simp only [Act.put, List.setIfInBounds_toArray, List.set_cons_zero, List.set_cons_succ]
  refine AnyL.takeW' (i := 20) (d := 35) (v := .pointer (some ⟨S, 11, none⟩)) rfl rfl (by kernel_rfl) (by decide) (by kernel_rfl) (by kernel_rfl) (fun _ _ _ h => h) rfl (fun w => by go_simp) hS ?_
  try simp only [Act.put, List.setIfInBounds_toArray, List.set_cons_zero, List.set_cons_succ]
  refine AnyL.takeW' (i := 21) (d := 36) (v := .pointer (some ⟨S, 11, none⟩)) rfl rfl (by kernel_rfl) (by decide) (by kernel_rfl) (by kernel_rfl) (fun _ _ _ h => h) rfl (fun w => by go_simp) hS ?_
  try simp only [Act.put, List.setIfInBounds_toArray, List.set_cons_zero, List.set_cons_succ]
  refine AnyL.take' (i := 22) (d := 37) (v := .slice (some ⟨b 11, 0, none⟩) D.n D.n) rfl rfl (by kernel_rfl) (by kernel_rfl) (by kernel_rfl) (by kernel_rfl) (by kernel_rfl) (fun _ _ _ h => h) rfl (fun w hSw => by obtain ⟨hs1, hs2, hs3, hs4, hs5⟩ := hSw; go_simp) hS ?_
  try simp only [Act.put, List.setIfInBounds_toArray, List.set_cons_zero, List.set_cons_succ]
  refine AnyL.takeW' (i := 24) (d := 39) (v := .pointer (some ⟨S, 0, none⟩)) rfl rfl (by kernel_rfl) (by decide) (by kernel_rfl) (by kernel_rfl) (fun _ _ _ h => h) rfl (fun w => by go_simp) hS ?_
  try simp only [Act.put, List.setIfInBounds_toArray, List.set_cons_zero, List.set_cons_succ]
  refine AnyL.takeW' (i := 25) (d := 40) (v := .pointer (some ⟨S, 0, none⟩)) rfl rfl (by kernel_rfl) (by decide) (by kernel_rfl) (by kernel_rfl) (fun _ _ _ h => h) rfl (fun w => by go_simp) hS ?_
  try simp only [Act.put, List.setIfInBounds_toArray, List.set_cons_zero, List.set_cons_succ]
  refine AnyL.takeW' (i := 26) (d := 41) (v := .pointer (some ⟨S, 4, none⟩)) rfl rfl (by kernel_rfl) (by decide) (by kernel_rfl) (by kernel_rfl) (fun _ _ _ h => h) rfl (fun w => by go_simp) hS ?_
  try simp only [Act.put, List.setIfInBounds_toArray, List.set_cons_zero, List.set_cons_succ]
  refine AnyL.take' (i := 27) (d := 42) (v := .slice (some ⟨b 4, 0, none⟩) D.m D.m) rfl rfl (by kernel_rfl) (by kernel_rfl) (by kernel_rfl) (by kernel_rfl) (by kernel_rfl) (fun _ _ _ h => h) rfl (fun w hSw => by obtain ⟨hs1, hs2, hs3, hs4, hs5⟩ := hSw; go_simp) hS ?_
  try simp only [Act.put, List.setIfInBounds_toArray, List.set_cons_zero, List.set_cons_succ]
  refine AnyL.takeW' (i := 28) (d := 43) (v := .int .i64 D.m) rfl rfl (by kernel_rfl) (by decide) (by kernel_rfl) (by kernel_rfl) (fun _ _ _ h => h) rfl (fun w => by go_simp) hS ?_
  try simp only [Act.put, List.setIfInBounds_toArray, List.set_cons_zero, List.set_cons_succ]
  have hd : ∀ rem : List Nat, ∀ s : Nat, s ≠ 19 → s ≠ 24 → s ≠ 38 → s ≠ 44 → s ≠ 45 → s ≠ 5 → ∀ j ∈ ([4, 9, 23, 29, 30, 31] : List Nat), j ∉ rem → (fun j => if j = 31 then 5 else j + 15) j ≠ s := by
    intro rem s h1 h2 h3 h4 h5 h6 j hj _
    simp only [List.mem_cons, List.not_mem_nil, or_false] at hj
    rcases hj with rfl | rfl | rfl | rfl | rfl | rfl <;> simp <;> omega
  refine AnyL.effects (R := [4, 9, 23, 29, 30, 31]) (dst := fun j => if j = 31 then 5 else j + 15) (fun rem vals w' => rem.Nodup ∧ ∃ g, EI D wd.drew rem vals w' g) (by kernel_rfl) (by kernel_rfl) (by decide) ?hsz ?hlz ?hS ?hstep 1 ?hend [4, 9, 23, 29, 30, 31] (by decide) (fun _ h => h) 6 rfl (fun _ => undef) _ _ _ (St.start _ _ _ _ _) ⟨by decide, fun _ => 0, ⟨Below.refl _ _, fun j hj hn => absurd hj (by intro h; exact hn (by revert h; revert j; decide)), fun i hi j hj hn => absurd hi (by intro h; exact hn (by revert h; revert i; decide)), fun hn => absurd (by decide) hn⟩⟩
  case hsz => intro j hj; show (if j = 31 then 5 else j + 15) < 205; revert j; decide
  case hlz => intro j hj; show j < 33; revert j; decide
  case hS =>
    rintro rem vals w' ⟨_, g, hE⟩
    have q : ∀ k, w'.cell? ⟨S, k, none⟩ = wd.drew.cell? ⟨S, k, none⟩ := fun k => hE.bel.cell (p := ⟨S, k, none⟩) (by show S < wd.heap.size; have := hB.size; omega)
    rw [q, q, q, q, q]
    exact hS
  case hstep =>
    have hst0 : ∀ j ∈ ([4, 9, 23, 29, 30, 31] : List Nat), (#[true, true, true, true, false, true, true, true, true, false, true, true, true, true, true, true, true, true, true, true, true, true, true, false, true, true, true, true, true, false, false, false, false] : Array Bool).getD j true = false := by decide
    intro rem j vals a l w' hj hsub hst hrd hI K hK
    obtain ⟨hnd, g, hE⟩ := hI
    have hjR := hsub j hj
    simp only [List.mem_cons, List.not_mem_nil, or_false] at hjR
    rcases hjR with rfl | rfl | rfl | rfl | rfl | rfl
    · have e18 : a.eval (.tmp 18) = .int .i64 D.n := by
        have := hst.old 18 (hd rem 18 (by decide) (by decide) (by decide) (by decide) (by decide) (by decide))
        show a.tmps.getD 18 undef = _
        rw [Array.getD_eq_getD_getElem?, this]; rfl
      refine wpOp_of (o := _) rfl rfl (op_make (.tmp 18) (.tmp 18) 33 rfl w'.heap.size 41 i0 _ 1 Yba.underlying33 hi hz0 hz1 .i64 .i64 D.n e18 e18 hbn hbn' (Nat.le_refl _) ?_)
      intro w'' ho hg
      have hb := (Blk.made ho).1
      rw [made_one _ _ rfl] at hb
      exact hK _ _ ⟨hnd.erase _, _, hE.fresh hnd (j := 4) (by decide) hj ((Below.refl _ _).grown hg (Nat.le_refl _) (fun k h => by cases h)) (Nat.le_refl _) hb⟩
    · have eS : a.eval (.tmp 23) = .int .i64 D.n := by
        have := hst.old 23 (hd rem 23 (by decide) (by decide) (by decide) (by decide) (by decide) (by decide))
        show a.tmps.getD 23 undef = _
        rw [Array.getD_eq_getD_getElem?, this]; rfl
      refine wpOp_of (o := _) rfl rfl (op_make (.tmp 23) (.tmp 23) 33 rfl w'.heap.size 41 i0 _ 1 Yba.underlying33 hi hz0 hz1 .i64 .i64 D.n eS eS hbn hbn' (Nat.le_refl _) ?_)
      intro w'' ho hg
      have hb := (Blk.made ho).1
      rw [made_one _ _ rfl] at hb
      exact hK _ _ ⟨hnd.erase _, _, hE.fresh hnd (j := 9) (by decide) hj ((Below.refl _ _).grown hg (Nat.le_refl _) (fun k h => by cases h)) (Nat.le_refl _) hb⟩
    · have t28 : a.tmps[28]? = some (.slice (some ⟨b 3, 0, none⟩) D.n D.n) := (hst.old 28 (hd rem 28 (by decide) (by decide) (by decide) (by decide) (by decide) (by decide))).trans rfl
      have t32 : a.tmps[32]? = some (.int .i64 D.nr) := (hst.old 32 (hd rem 32 (by decide) (by decide) (by decide) (by decide) (by decide) (by decide))).trans rfl
      have t37 : a.tmps[37]? = some (.slice (some ⟨b 11, 0, none⟩) D.n D.n) := (hst.old 37 (hd rem 37 (by decide) (by decide) (by decide) (by decide) (by decide) (by decide))).trans rfl
      refine wpOp_of (o := _) rfl rfl ?_
      unfold Oper.wp
      go_simp
      have hbw : Below w.heap.size w w' := hB.drew.trans (hE.bel.mono (by show w.heap.size ≤ wd.heap.size; exact hB.size))
      refine (rowsOf_any (b 3) (b 11) D.n D.nr D.el D.ri D.ev D.Z w' HV.out.n3 HV.out.r3 (Nat.lt_of_lt_of_le (HV.out.lt.2 3 (by omega)) hbw.size) (Nat.lt_of_lt_of_le (HV.out.lt.2 11 (by omega)) hbw.size) (HV.out.col.below hbw (HV.out.lt.2 3 (by omega))) (fun j hj => ⟨by rw [hbw.cell (p := ⟨b 11, j, none⟩) (HV.out.lt.2 11 (by omega))]; exact (HV.out.var j hj).2.2.2.1, (HV.out.var j hj).2.2.2.2.2.2.1⟩)).mono ?_
      rintro e w'' ⟨g', rfl, hg', hb', hbel⟩
      exact hK _ _ ⟨hnd.erase _, _, hE.fresh hnd (j := 23) (by decide) hj hbel hg' hb'⟩
    · have eS : a.eval (.tmp 43) = .int .i64 D.m := by
        have := hst.old 43 (hd rem 43 (by decide) (by decide) (by decide) (by decide) (by decide) (by decide))
        show a.tmps.getD 43 undef = _
        rw [Array.getD_eq_getD_getElem?, this]; rfl
      refine wpOp_of (o := _) rfl rfl (op_make (.tmp 43) (.tmp 43) 33 rfl w'.heap.size 41 i0 _ 1 Yba.underlying33 hi hz0 hz1 .i64 .i64 D.m eS eS hbm hbm' (Nat.le_refl _) ?_)
      intro w'' ho hg
      have hb := (Blk.made ho).1
      rw [made_one _ _ rfl] at hb
      exact hK _ _ ⟨hnd.erase _, _, hE.fresh hnd (j := 29) (by decide) hj ((Below.refl _ _).grown hg (Nat.le_refl _) (fun k h => by cases h)) (Nat.le_refl _) hb⟩
    · have hr0 := fun j hj => hst0 j hj
      have d4 : 4 ∉ rem := hst.done hr0 hrd (by kernel_rfl) (by decide)
      have d9 : 9 ∉ rem := hst.done hr0 hrd (by kernel_rfl) (by decide)
      have d23 : 23 ∉ rem := hst.done hr0 hrd (by kernel_rfl) (by decide)
      have d29 : 29 ∉ rem := hst.done hr0 hrd (by kernel_rfl) (by decide)
      have t19 : a.tmps[19]? = some (vals 4) := hst.new 4 (by decide) d4
      have t24 : a.tmps[24]? = some (vals 9) := hst.new 9 (by decide) d9
      have t38 : a.tmps[38]? = some (vals 23) := hst.new 23 (by decide) d23
      have t44 : a.tmps[44]? = some (vals 29) := hst.new 29 (by decide) d29
      have hEb := hE.build hnd d4 d9 d23 d29
      have q4 : vals 4 = .slice (some ⟨g 4, 0, none⟩) D.n D.n := (hE.got 4 (by decide) d4).2.2
      have q9 : vals 9 = .slice (some ⟨g 9, 0, none⟩) D.n D.n := (hE.got 9 (by decide) d9).2.2
      have q23 : vals 23 = .slice (some ⟨g 23, 0, none⟩) D.nr D.nr := (hE.got 23 (by decide) d23).2.2
      have q29 : vals 29 = .slice (some ⟨g 29, 0, none⟩) D.m D.m := (hE.got 29 (by decide) d29).2.2
      rw [q4] at t19
      rw [q9] at t24
      rw [q23] at t38
      rw [q29] at t44
      rw [q4, q9, q23, q29] at hEb
      clear q4 q9 q23 q29
      refine wpOp_of (o := _) rfl rfl ?_
      unfold Oper.wp
      go_simp
      exact hK _ _ ⟨hnd.erase _, g, hEb⟩
    · refine wpOp_of (o := _) rfl rfl ?_
      unfold Oper.wp
      go_simp
      exact hK _ _ ⟨hnd.erase _, _, hE.fresh hnd (j := 31) (by decide) hj ((Below.refl _ _).alloc (Nat.le_refl _) _) (Nat.le_refl _) (blk_new w' #[.slice none 0 0, .slice none 0 0, .slice none 0 0, .slice none 0 0] 51)⟩
  case hend =>
    rintro vals a l w' hst ⟨_, g, hE⟩
    obtain ⟨ha, hl⟩ := hst.over
    have q4 : vals 4 = .slice (some ⟨g 4, 0, none⟩) D.n D.n := (hE.got 4 (by decide) (by simp)).2.2
    have q9 : vals 9 = .slice (some ⟨g 9, 0, none⟩) D.n D.n := (hE.got 9 (by decide) (by simp)).2.2
    have q23 : vals 23 = .slice (some ⟨g 23, 0, none⟩) D.nr D.nr := (hE.got 23 (by decide) (by simp)).2.2
    have q29 : vals 29 = .slice (some ⟨g 29, 0, none⟩) D.m D.m := (hE.got 29 (by decide) (by simp)).2.2
    have q31 : vals 31 = .pointer (some ⟨g 31, 0, none⟩) := (hE.got 31 (by decide) (by simp)).2.2
    have q30 := (hE.bld (by simp)).2
    have M : Mem R5 (fun k => g (eff k)) (fun k => contOf D (eff k)) wd w' := hE.mem (Below.refl _ _).drew
    clear hst hE hS hd
    subst hl
    simp only [List.foldl_cons, List.foldl_nil, List.setIfInBounds_toArray, List.set_cons_zero, List.set_cons_succ, q4, q9, q23, q29, q30, q31, if_pos, if_neg, reduceIte, Nat.reduceEqDiff, Nat.reduceAdd] at ha
    subst ha
    clear q4 q9 q23 q29 q30 q31 vals
    obtain ⟨b', hb'⟩ : ∃ b', b' = fun k => g (eff k) := ⟨_, rfl⟩
    rw [← hb'] at M
    have e20 : g 4 = b' 20 := by rw [hb']; rfl
    have e21 : g 9 = b' 21 := by rw [hb']; rfl
    have e22 : g 23 = b' 22 := by rw [hb']; rfl
    have e23 : g 29 = b' 23 := by rw [hb']; rfl
    have e24 : g 31 = b' 24 := by rw [hb']; rfl
    rw [e20, e21, e22, e23, e24]
    clear e20 e21 e22 e23 e24 hb' g
    have m0 : w'.cell? ⟨b' 24, 0, none⟩ = some (.slice none 0 0) := M.cell (k := 24) (by decide) 0
    have m1 : w'.cell? ⟨b' 24, 1, none⟩ = some (.slice none 0 0) := M.cell (k := 24) (by decide) 1
    have m2 : w'.cell? ⟨b' 24, 2, none⟩ = some (.slice none 0 0) := M.cell (k := 24) (by decide) 2
    have m3 : w'.cell? ⟨b' 24, 3, none⟩ = some (.slice none 0 0) := M.cell (k := 24) (by decide) 3
    have f0 := M.fro (k := 24) (by decide) 0
    have f1 := M.fro (k := 24) (by decide) 1
    have f2 := M.fro (k := 24) (by decide) 2
    have f3 := M.fro (k := 24) (by decide) 3
    have l0 := M.lt (k := 24) (by decide)
    have HM : Hid (Mem R5 b' (fun k => contOf D (eff k)) wd w') := M
    clear M
    refine AnyL.one (i := 32) (by kernel_rfl) rfl rfl (fun K hK => ?_)
    go_simp
    refine hK.out _ _ (fun h => by cases h) ?_
    clear hK K
    refine AnyL.done (by kernel_rfl) ?_
    have hsum : Sums D.nr (uAll D) := uOut_sums HV.out.col.row HV.out.col.bd (fun j hj => (HV.out.var j hj).2.2.2.2.2.2.1) _ (Nat.le_refl _)
    have HL := LV.start HM.out hsum (fun j' x => j' < 0 → RdR D j' x) (fun j' x => j' < 0 → ScR D j' x) (fun j x h => absurd h (Nat.not_lt_zero _)) (fun j x h => absurd h (Nat.not_lt_zero _))
    obtain ⟨w2, hw2⟩ : ∃ w2, w2 = (((w'.setCell ⟨b' 24, 0, none⟩ (.slice (some ⟨b' 20, 0, none⟩) D.n D.n)).setCell ⟨b' 24, 1, none⟩ (.slice (some ⟨b' 21, 0, none⟩) D.n D.n)).setCell ⟨b' 24, 2, none⟩ (.slice (some ⟨b' 22, 0, none⟩) D.nr D.nr)).setCell ⟨b' 24, 3, none⟩ (.slice (some ⟨b' 23, 0, none⟩) D.m D.m) := ⟨_, rfl⟩
    rw [← hw2] at HL ⊢
    have HW : Hid (Slv wd S b D) := HV.out.below hB
    have HB : Hid (Below w.heap.size w wd ∧ Blk wd w.heap.size 51 [.slice none 0 0, .slice none 0 0, .slice none 0 0, .slice none 0 0]) := ⟨hB, by rw [hwd]; exact blk_new w #[.slice none 0 0, .slice none 0 0, .slice none 0 0, .slice none 0 0] 51⟩
    clear hw2 m0 m1 m2 m3 f0 f1 f2 f3 l0 HM hi hz0 hz1 hz2 hbn hbm hbn' hbm' s0 s3 s4 s7 s11 hB hsum hwd hSl HV w'
    have HL1 : Hid (LV D b' wd w2 (fun j' x => j' < 0 → RdR D j' x) (fun j' x => j' < 0 → ScR D j' x) (fun k x => x = (uAll D).getD k 0) (fun _ x => x = 0)) := HL
    have V2 := HW.out.below HL.bel
    have s3 := V2.s3
    have n3 := V2.n3
    clear HL V2
    go_wp2
    clear s3
    go_loopw [51] (fun i wr => ∃ j : Nat, j ≤ D.n ∧ i = .int .i64 j ∧ Hid (LV D b' wd wr (fun j' x => j' < j → RdR D j' x) (fun j' x => j' < j → ScR D j' x) (fun k x => x = (uAll D).getD k 0) (fun _ x => x = 0))) (fun i _ => D.n - (intOf i).toNat)
    case atStart => exact ⟨0, by omega, rfl, HL1⟩
    case round =>
      clear HL1 w2
      obtain ⟨j, hj, rfl, HJ⟩ := hrel
      obtain ⟨wr1, hwr1⟩ : ∃ wr1, wr1 = wr := ⟨_, rfl⟩
      subst hwr1
      have V2 := HW.out.below HJ.out.bel
      by_cases hjn : j < D.n
      · obtain ⟨a, ca, hE⟩ := HW.out.col.cell j hjn
        rw [← HJ.out.bel.cell (p := ⟨b 3, j, none⟩) (HW.out.lt.2 3 (by omega))] at ca
        obtain ⟨v1, v2, v3, v4, v5, z1, _, z2⟩ := V2.var j hjn
        have HE : Hid (∀ e, e < D.el j → ∃ g, a = some ⟨g, 0, none⟩ ∧ g < wd.heap.size ∧ ∀ e', e' < D.el j → wd.cell? ⟨g, e' * 2, none⟩ = some (.int .i64 (D.ri j e')) ∧ wd.cell? ⟨g, e' * 2 + 1, none⟩ = some (.float .f64 (fi (D.ev j e')))) := hE
        clear hE
        obtain ⟨u1, u2, u3, u4, u5, y1, y2, y3, y4, _⟩ := V2.usr _ v2
        have s1 := V2.s1
        have s2 := V2.s2
        have s5 := V2.s5
        have s16 := V2.s16
        clear V2
        have rm : ∀ W, (binOp .mul 41 (.float .f64 (fi (D.U (D.ui j)).w)) (.float .f64 (fi (D.F j)))).run Yba.prog W = .ok (.float .f64 (numer D j)) W := fun W => run_mul W 41 (prod_num y1 z1).1
        have rp : ∀ W, (binOp .mul 41 (.float .f64 (fi (D.F j))) (.float .f64 (fi (D.U (D.ui j)).eta))).run Yba.prog W = .ok (.float .f64 (priceAt D j 0)) W := fun W => run_mul W 41 (prod_num z1 y4).1
        clear y1 y2 y3 y4 z1 z2
        go_wp2
        have hS : wr1.drew.cell? ⟨S, 5, none⟩ = some (.slice (some ⟨b 5, 0, none⟩) D.m D.m) ∧ wr1.drew.cell? ⟨S, 2, none⟩ = some (.slice (some ⟨b 2, 0, none⟩) D.n D.n) ∧ wr1.drew.cell? ⟨b 5, D.ui j, none⟩ = some (.float .f64 (fi (D.U (D.ui j)).w)) ∧ wr1.drew.cell? ⟨b 2, j, none⟩ = some (.float .f64 (fi (D.F j))) ∧ wr1.drew.cell? ⟨b 17, D.ui j, none⟩ = some (.float .f64 (fi (D.U (D.ui j)).am)) := ⟨s5, s2, u1, v3, u5⟩
        refine AnyL.region (S := fun w' => w'.cell? ⟨S, 5, none⟩ = some (.slice (some ⟨b 5, 0, none⟩) D.m D.m) ∧ w'.cell? ⟨S, 2, none⟩ = some (.slice (some ⟨b 2, 0, none⟩) D.n D.n) ∧ w'.cell? ⟨b 5, D.ui j, none⟩ = some (.float .f64 (fi (D.U (D.ui j)).w)) ∧ w'.cell? ⟨b 2, j, none⟩ = some (.float .f64 (fi (D.F j))) ∧ w'.cell? ⟨b 17, D.ui j, none⟩ = some (.float .f64 (fi (D.U (D.ui j)).am))) (L := 20) (by kernel_rfl) ?_
        refine AnyL.takeW' (i := 0) (d := 63) (v := .pointer (some ⟨S, 0, none⟩)) rfl rfl (by kernel_rfl) (by decide) (by kernel_rfl) (by kernel_rfl) (fun _ _ _ h => h) rfl (fun w => by go_simp) hS ?_
        try simp only [Act.put, List.setIfInBounds_toArray, List.set_cons_zero, List.set_cons_succ]
        refine AnyL.takeW' (i := 1) (d := 64) (v := .pointer (some ⟨S, 0, none⟩)) rfl rfl (by kernel_rfl) (by decide) (by kernel_rfl) (by kernel_rfl) (fun _ _ _ h => h) rfl (fun w => by go_simp) hS ?_
        try simp only [Act.put, List.setIfInBounds_toArray, List.set_cons_zero, List.set_cons_succ]
        refine AnyL.takeW' (i := 2) (d := 65) (v := .pointer (some ⟨S, 5, none⟩)) rfl rfl (by kernel_rfl) (by decide) (by kernel_rfl) (by kernel_rfl) (fun _ _ _ h => h) rfl (fun w => by go_simp) hS ?_
        try simp only [Act.put, List.setIfInBounds_toArray, List.set_cons_zero, List.set_cons_succ]
        refine AnyL.take' (i := 3) (d := 66) (v := .slice (some ⟨b 5, 0, none⟩) D.m D.m) rfl rfl (by kernel_rfl) (by kernel_rfl) (by kernel_rfl) (by kernel_rfl) (by kernel_rfl) (fun _ _ _ h => h) rfl (fun w hSw => by obtain ⟨hs1, hs2, hs3, hs4, hs5⟩ := hSw; go_simp) hS ?_
        try simp only [Act.put, List.setIfInBounds_toArray, List.set_cons_zero, List.set_cons_succ]
        refine AnyL.takeW' (i := 4) (d := 67) (v := .int .i64 (D.ui j)) rfl rfl (by kernel_rfl) (by decide) (by kernel_rfl) (by kernel_rfl) (fun _ _ _ h => h) rfl (fun w => by go_simp) hS ?_
        try simp only [Act.put, List.setIfInBounds_toArray, List.set_cons_zero, List.set_cons_succ]
        refine AnyL.takeW' (i := 5) (d := 68) (v := .pointer (some ⟨b 5, D.ui j, none⟩)) rfl rfl (by kernel_rfl) (by decide) (by kernel_rfl) (by kernel_rfl) (fun _ _ _ h => h) rfl (fun w => by go_simp) hS ?_
        try simp only [Act.put, List.setIfInBounds_toArray, List.set_cons_zero, List.set_cons_succ]
        refine AnyL.take' (i := 6) (d := 69) (v := .float .f64 (fi (D.U (D.ui j)).w)) rfl rfl (by kernel_rfl) (by kernel_rfl) (by kernel_rfl) (by kernel_rfl) (by kernel_rfl) (fun _ _ _ h => h) rfl (fun w hSw => by obtain ⟨hs1, hs2, hs3, hs4, hs5⟩ := hSw; go_simp) hS ?_
        try simp only [Act.put, List.setIfInBounds_toArray, List.set_cons_zero, List.set_cons_succ]
        refine AnyL.takeW' (i := 7) (d := 70) (v := .pointer (some ⟨S, 0, none⟩)) rfl rfl (by kernel_rfl) (by decide) (by kernel_rfl) (by kernel_rfl) (fun _ _ _ h => h) rfl (fun w => by go_simp) hS ?_
        try simp only [Act.put, List.setIfInBounds_toArray, List.set_cons_zero, List.set_cons_succ]
        refine AnyL.takeW' (i := 8) (d := 71) (v := .pointer (some ⟨S, 0, none⟩)) rfl rfl (by kernel_rfl) (by decide) (by kernel_rfl) (by kernel_rfl) (fun _ _ _ h => h) rfl (fun w => by go_simp) hS ?_
        try simp only [Act.put, List.setIfInBounds_toArray, List.set_cons_zero, List.set_cons_succ]
        refine AnyL.takeW' (i := 9) (d := 72) (v := .pointer (some ⟨S, 2, none⟩)) rfl rfl (by kernel_rfl) (by decide) (by kernel_rfl) (by kernel_rfl) (fun _ _ _ h => h) rfl (fun w => by go_simp) hS ?_
        try simp only [Act.put, List.setIfInBounds_toArray, List.set_cons_zero, List.set_cons_succ]
        refine AnyL.take' (i := 10) (d := 73) (v := .slice (some ⟨b 2, 0, none⟩) D.n D.n) rfl rfl (by kernel_rfl) (by kernel_rfl) (by kernel_rfl) (by kernel_rfl) (by kernel_rfl) (fun _ _ _ h => h) rfl (fun w hSw => by obtain ⟨hs1, hs2, hs3, hs4, hs5⟩ := hSw; go_simp) hS ?_
        try simp only [Act.put, List.setIfInBounds_toArray, List.set_cons_zero, List.set_cons_succ]
        refine AnyL.takeW' (i := 11) (d := 74) (v := .int .i64 j) rfl rfl (by kernel_rfl) (by decide) (by kernel_rfl) (by kernel_rfl) (fun _ _ _ h => h) rfl (fun w => by go_simp) hS ?_
        try simp only [Act.put, List.setIfInBounds_toArray, List.set_cons_zero, List.set_cons_succ]
        refine AnyL.takeW' (i := 12) (d := 75) (v := .pointer (some ⟨b 2, j, none⟩)) rfl rfl (by kernel_rfl) (by decide) (by kernel_rfl) (by kernel_rfl) (fun _ _ _ h => h) rfl (fun w => by go_simp) hS ?_
        try simp only [Act.put, List.setIfInBounds_toArray, List.set_cons_zero, List.set_cons_succ]
        refine AnyL.take' (i := 13) (d := 76) (v := .float .f64 (fi (D.F j))) rfl rfl (by kernel_rfl) (by kernel_rfl) (by kernel_rfl) (by kernel_rfl) (by kernel_rfl) (fun _ _ _ h => h) rfl (fun w hSw => by obtain ⟨hs1, hs2, hs3, hs4, hs5⟩ := hSw; go_simp) hS ?_
        try simp only [Act.put, List.setIfInBounds_toArray, List.set_cons_zero, List.set_cons_succ]
        refine AnyL.takeW' (i := 14) (d := 77) (v := .float .f64 (numer D j)) rfl rfl (by kernel_rfl) (by decide) (by kernel_rfl) (by kernel_rfl) (fun _ _ _ h => h) rfl (fun w => by go_simp) hS ?_
        try simp only [Act.put, List.setIfInBounds_toArray, List.set_cons_zero, List.set_cons_succ]
        refine AnyL.takeW' (i := 15) (d := 78) (v := .slice (some ⟨b 17, 0, none⟩) D.m D.m) rfl rfl (by kernel_rfl) (by decide) (by kernel_rfl) (by kernel_rfl) (fun _ _ _ h => h) rfl (fun w => by go_simp) hS ?_
        try simp only [Act.put, List.setIfInBounds_toArray, List.set_cons_zero, List.set_cons_succ]
        refine AnyL.takeW' (i := 16) (d := 79) (v := .int .i64 (D.ui j)) rfl rfl (by kernel_rfl) (by decide) (by kernel_rfl) (by kernel_rfl) (fun _ _ _ h => h) rfl (fun w => by go_simp) hS ?_
        try simp only [Act.put, List.setIfInBounds_toArray, List.set_cons_zero, List.set_cons_succ]
        refine AnyL.takeW' (i := 17) (d := 80) (v := .pointer (some ⟨b 17, D.ui j, none⟩)) rfl rfl (by kernel_rfl) (by decide) (by kernel_rfl) (by kernel_rfl) (fun _ _ _ h => h) rfl (fun w => by go_simp) hS ?_
        try simp only [Act.put, List.setIfInBounds_toArray, List.set_cons_zero, List.set_cons_succ]
        refine AnyL.take' (i := 18) (d := 81) (v := .float .f64 (fi (D.U (D.ui j)).am)) rfl rfl (by kernel_rfl) (by kernel_rfl) (by kernel_rfl) (by kernel_rfl) (by kernel_rfl) (fun _ _ _ h => h) rfl (fun w hSw => by obtain ⟨hs1, hs2, hs3, hs4, hs5⟩ := hSw; go_simp) hS ?_
        try simp only [Act.put, List.setIfInBounds_toArray, List.set_cons_zero, List.set_cons_succ]
        obtain ⟨gr, q, hG, hrun⟩ := run_FR (P := Yba.prog) wr1.drew .quo (Or.inr rfl) 41 (numer D j) (fi (D.U (D.ui j)).am)
        refine AnyL.one (i := 19) (by kernel_rfl) rfl rfl (fun K hK => ?_)
        go_simp
        refine hK.out _ _ (fun h => ⟨s5, s2, u1, v3, u5⟩) ?_
        clear hK K hrun hS
        refine AnyL.one (i := 20) (by kernel_rfl) rfl rfl (fun K hK => ?_)
        go_simp
        refine hK.out _ _ (fun h => ⟨s5, s2, u1, v3, u5⟩) ?_
        clear hK K
        refine AnyL.done (by kernel_rfl) ?_
        have HG : Hid (GR D j gr) := hG
        clear hG
        go_wp2
        go_region
        go_wp2
        have HJ3 : Hid (LV D b' wd (wr1.drewN (1 + q + 1)) (fun j' x => j' < j → RdR D j' x) (fun j' x => j' < j → ScR D j' x) (fun k x => x = (uAll D).getD k 0) (fun _ x => x = 0)) := HJ.out.draws _
        have hui : D.ui j < D.m := v2
        clear HJ rm rp v1 v2 v3 v4 v5 u1 u2 u3 u4 u5 s1 s2 s5 s16 ca
        go_loopw [101, 10] (fun i p wr => ∃ e : Nat, e ≤ D.el j ∧ i = .int .i64 e ∧ p = .float .f64 (priceAt D j e) ∧ Hid (LV D b' wd wr (fun j' x => j' < j → RdR D j' x) (fun j' x => j' < j → ScR D j' x) (fun k x => x = (uAll D).getD k 0) (fun _ x => x = 0))) (fun i _ _ => D.el j - (intOf i).toNat)
        case atStart => exact ⟨0, by omega, rfl, rfl, HJ3⟩
        case round =>
          clear HJ3
          obtain ⟨e, he, rfl, rfl, HI⟩ := hrel
          obtain ⟨wr2, hwr2⟩ : ∃ wr2, wr2 = wr := ⟨_, rfl⟩
          subst hwr2
          have V3 := HW.out.below HI.out.bel
          by_cases hee : e < D.el j
          · obtain ⟨g', rfl, hg', hcs⟩ := HE.out e hee
            obtain ⟨c0, c1⟩ := hcs e hee
            rw [← HI.out.bel.cell (p := ⟨g', e * 2, none⟩) hg'] at c0
            rw [← HI.out.bel.cell (p := ⟨g', e * 2 + 1, none⟩) hg'] at c1
            have hrow := HW.out.col.row j hjn e hee
            have hel := HW.out.col.len j hjn
            obtain ⟨r1, r2, r3, r4⟩ := V3.row _ hrow
            have hm := prod_num (HW.out.col.bd j hjn e hee) r4
            have hp := price_ok D j (HW.out.var j hjn).2.2.2.2.2.1 (HW.out.usr _ hui).2.2.2.2.2.2.2.2.1 (HW.out.col.bd j hjn) (fun e he => (HW.out.row _ (HW.out.col.row j hjn e he)).2.2.2) e he
            have rm := fun W => run_mul W 41 hm.1
            have ra : ∀ W, (binOp .add 41 (.float .f64 (priceAt D j e)) (.float .f64 (fmul (fi (D.ev j e)) (fi (D.R (D.ri j e)).2)))).run Yba.prog W = .ok (.float .f64 (priceAt D j (e + 1))) W := fun W => run_add W 41 (sum_ok hp hm.2).1
            have s14 := V3.s14
            have hSl := V3.lt.1
            have hbl := V3.lt.2 14 (by omega)
            have hgl : g' < wr2.heap.size := Nat.lt_of_lt_of_le hg' HI.out.bel.size
            clear V3 hcs r1 r3 r4 hm hp
            go_wp2
            go_region
            go_wp2
            refine ⟨⟨e + 1, by omega, by go_num, rfl, ?_⟩, by simp [intOf]; omega⟩
            exact (HI.out.alloc _).draws 1
          · obtain rfl : e = D.el j := by omega
            clear HE he hee
            obtain ⟨x0, d20, _⟩ := HI.out.get20 hjn
            have f20 := HI.out.fro (k := 20) (by decide) j
            have l20 := HI.out.lt (k := 20) (by decide)
            have m0 : wr2.cell? ⟨b' 24, 0, none⟩ = some (.slice (some ⟨b' 20, 0, none⟩) D.n D.n) := HI.out.var 0
            have m1 : wr2.cell? ⟨b' 24, 1, none⟩ = some (.slice (some ⟨b' 21, 0, none⟩) D.n D.n) := HI.out.var 1
            have s12 := V3.s12
            have v5 := (V3.var j hjn).2.2.2.2.1
            clear V3
            go_wp2
            have hS : wr2.drew.cell? ⟨b' 24, 0, none⟩ = some (.slice (some ⟨b' 20, 0, none⟩) D.n D.n) ∧ wr2.drew.cell? ⟨S, 12, none⟩ = some (.slice (some ⟨b 12, 0, none⟩) D.n D.n) ∧ wr2.drew.cell? ⟨b 12, j, none⟩ = some (.float .f64 (fi (D.Nu j))) := ⟨m0, s12, v5⟩
            refine AnyL.region (S := fun w' => w'.cell? ⟨b' 24, 0, none⟩ = some (.slice (some ⟨b' 20, 0, none⟩) D.n D.n) ∧ w'.cell? ⟨S, 12, none⟩ = some (.slice (some ⟨b 12, 0, none⟩) D.n D.n) ∧ w'.cell? ⟨b 12, j, none⟩ = some (.float .f64 (fi (D.Nu j)))) (L := 16) (by kernel_rfl) ?_
            refine AnyL.takeW' (i := 0) (d := 120) (v := .pointer (some ⟨b' 24, 0, none⟩)) rfl rfl (by kernel_rfl) (by decide) (by kernel_rfl) (by kernel_rfl) (fun _ _ _ h => h) rfl (fun w => by go_simp) hS ?_
            try simp only [Act.put, List.setIfInBounds_toArray, List.set_cons_zero, List.set_cons_succ]
            refine AnyL.take' (i := 1) (d := 121) (v := .slice (some ⟨b' 20, 0, none⟩) D.n D.n) rfl rfl (by kernel_rfl) (by kernel_rfl) (by kernel_rfl) (by kernel_rfl) (by kernel_rfl) (fun _ _ _ h => h) rfl (fun w hSw => by obtain ⟨hs1, hs2, hs3⟩ := hSw; go_simp) hS ?_
            try simp only [Act.put, List.setIfInBounds_toArray, List.set_cons_zero, List.set_cons_succ]
            refine AnyL.takeW' (i := 2) (d := 122) (v := .int .i64 j) rfl rfl (by kernel_rfl) (by decide) (by kernel_rfl) (by kernel_rfl) (fun _ _ _ h => h) rfl (fun w => by go_simp) hS ?_
            try simp only [Act.put, List.setIfInBounds_toArray, List.set_cons_zero, List.set_cons_succ]
            refine AnyL.takeW' (i := 3) (d := 123) (v := .float .f64 (priceAt D j (D.el j))) rfl rfl (by kernel_rfl) (by decide) (by kernel_rfl) (by kernel_rfl) (fun _ _ _ h => h) rfl (fun w => by go_simp) hS ?_
            try simp only [Act.put, List.setIfInBounds_toArray, List.set_cons_zero, List.set_cons_succ]
            refine AnyL.takeW' (i := 4) (d := 124) (v := .float .f64 (gr)) rfl rfl (by kernel_rfl) (by decide) (by kernel_rfl) (by kernel_rfl) (fun _ _ _ h => h) rfl (fun w => by go_simp) hS ?_
            try simp only [Act.put, List.setIfInBounds_toArray, List.set_cons_zero, List.set_cons_succ]
            refine AnyL.takeW' (i := 6) (d := 126) (v := .pointer (some ⟨S, 0, none⟩)) rfl rfl (by kernel_rfl) (by decide) (by kernel_rfl) (by kernel_rfl) (fun _ _ _ h => h) rfl (fun w => by go_simp) hS ?_
            try simp only [Act.put, List.setIfInBounds_toArray, List.set_cons_zero, List.set_cons_succ]
            refine AnyL.takeW' (i := 7) (d := 127) (v := .pointer (some ⟨S, 0, none⟩)) rfl rfl (by kernel_rfl) (by decide) (by kernel_rfl) (by kernel_rfl) (fun _ _ _ h => h) rfl (fun w => by go_simp) hS ?_
            try simp only [Act.put, List.setIfInBounds_toArray, List.set_cons_zero, List.set_cons_succ]
            refine AnyL.takeW' (i := 8) (d := 128) (v := .pointer (some ⟨S, 11, none⟩)) rfl rfl (by kernel_rfl) (by decide) (by kernel_rfl) (by kernel_rfl) (fun _ _ _ h => h) rfl (fun w => by go_simp) hS ?_
            try simp only [Act.put, List.setIfInBounds_toArray, List.set_cons_zero, List.set_cons_succ]
            refine AnyL.takeW' (i := 9) (d := 129) (v := .pointer (some ⟨S, 12, none⟩)) rfl rfl (by kernel_rfl) (by decide) (by kernel_rfl) (by kernel_rfl) (fun _ _ _ h => h) rfl (fun w => by go_simp) hS ?_
            try simp only [Act.put, List.setIfInBounds_toArray, List.set_cons_zero, List.set_cons_succ]
            refine AnyL.take' (i := 10) (d := 130) (v := .slice (some ⟨b 12, 0, none⟩) D.n D.n) rfl rfl (by kernel_rfl) (by kernel_rfl) (by kernel_rfl) (by kernel_rfl) (by kernel_rfl) (fun _ _ _ h => h) rfl (fun w hSw => by obtain ⟨hs1, hs2, hs3⟩ := hSw; go_simp) hS ?_
            try simp only [Act.put, List.setIfInBounds_toArray, List.set_cons_zero, List.set_cons_succ]
            refine AnyL.takeW' (i := 11) (d := 131) (v := .int .i64 j) rfl rfl (by kernel_rfl) (by decide) (by kernel_rfl) (by kernel_rfl) (fun _ _ _ h => h) rfl (fun w => by go_simp) hS ?_
            try simp only [Act.put, List.setIfInBounds_toArray, List.set_cons_zero, List.set_cons_succ]
            refine AnyL.takeW' (i := 12) (d := 132) (v := .pointer (some ⟨b 12, j, none⟩)) rfl rfl (by kernel_rfl) (by decide) (by kernel_rfl) (by kernel_rfl) (fun _ _ _ h => h) rfl (fun w => by go_simp) hS ?_
            try simp only [Act.put, List.setIfInBounds_toArray, List.set_cons_zero, List.set_cons_succ]
            refine AnyL.take' (i := 13) (d := 133) (v := .float .f64 (fi (D.Nu j))) rfl rfl (by kernel_rfl) (by kernel_rfl) (by kernel_rfl) (by kernel_rfl) (by kernel_rfl) (fun _ _ _ h => h) rfl (fun w hSw => by obtain ⟨hs1, hs2, hs3⟩ := hSw; go_simp) hS ?_
            try simp only [Act.put, List.setIfInBounds_toArray, List.set_cons_zero, List.set_cons_succ]
            obtain ⟨x1, q1, hX1, hrun1⟩ := run_FR (P := Yba.prog) wr2.drew .sub (Or.inl rfl) 41 (priceAt D j (D.el j)) gr
            refine AnyL.one (i := 5) (by kernel_rfl) rfl rfl (fun K hK => ?_)
            go_simp
            refine hK.out _ _ (fun h => ⟨m0, s12, v5⟩) ?_
            clear hK K hrun1 hS
            obtain ⟨x2, q2, hX2, hrun2⟩ := run_FR (P := Yba.prog) (wr2.drewN (1 + q1)) .sub (Or.inl rfl) 41 x1 (fi (D.Nu j))
            refine AnyL.one (i := 14) (by kernel_rfl) rfl rfl (fun K hK => ?_)
            go_simp
            refine hK.out _ _ (fun h => ⟨m0, s12, v5⟩) ?_
            clear hK K hrun2
            refine AnyL.one (i := 15) (by kernel_rfl) rfl rfl (fun K hK => ?_)
            go_simp
            refine hK.out _ _ (fun h => ⟨m0, s12, v5⟩) ?_
            clear hK K
            refine AnyL.one (i := 16) (by kernel_rfl) rfl rfl (fun K hK => ?_)
            go_simp
            refine hK.out _ _ (fun h => by cases h) ?_
            clear hK K
            refine AnyL.done (by kernel_rfl) ?_
            have HI5 : Hid (LV D b' wd ((wr2.drewN (1 + q1 + q2)).setCell ⟨b' 20, j, none⟩ (.float .f64 x2)) (fun j' x => j' < j + 1 → RdR D j' x) (fun j' x => j' < j → ScR D j' x) (fun k x => x = (uAll D).getD k 0) (fun _ x => x = 0)) := (HI.out.draws (1 + q1 + q2)).set20 j x2 (fun _ => ⟨gr, x1, HG.out, hX1, hX2⟩) (fun j' hne y h hlt => h (by omega))
            obtain ⟨w5, hw5⟩ : ∃ w5, w5 = (wr2.drewN (1 + q1 + q2)).setCell ⟨b' 20, j, none⟩ (.float .f64 x2) := ⟨_, rfl⟩
            rw [← hw5] at HI5 ⊢
            clear hw5 m0 m1 s12 v5 d20 f20 l20 hX1 hX2 HI
            obtain ⟨x3, q3, hM, hrun3⟩ := run_MR (P := Yba.prog) w5 gr (priceAt D j (D.el j))
            have HMx : Hid (MR gr (priceAt D j (D.el j)) x3) := hM
            obtain ⟨y0, d21, _⟩ := HI5.out.get21 hjn
            have f21 := HI5.out.fro (k := 21) (by decide) j
            have l21 := HI5.out.lt (k := 21) (by decide)
            have m1 : w5.cell? ⟨b' 24, 1, none⟩ = some (.slice (some ⟨b' 21, 0, none⟩) D.n D.n) := HI5.out.var 1
            clear hM
            go_wp2
            refine ⟨⟨j + 1, by omega, by go_num, ?_⟩, by simp [intOf]; omega⟩
            exact (HI5.out.draws q3).set21 j x3 (fun _ => ⟨gr, HG.out, HMx.out⟩) (fun j' hne y h hlt => h (by omega))
      · obtain rfl : j = D.n := by omega
        have HK : Hid (LV D b' wd wr1 (fun j' x => j' < D.n → RdR D j' x) (fun j' x => j' < D.n → ScR D j' x) (fun k' x => x = if k' < 0 then rpOf D k' else (uAll D).getD k' 0) (fun _ x => x = 0)) := HJ.out.mono (fun k _ x h => h) (fun i _ x h => h)
        have m2 : wr1.cell? ⟨b' 24, 2, none⟩ = some (.slice (some ⟨b' 22, 0, none⟩) D.nr D.nr) := HJ.out.var 2
        have r3 := HW.out.r3
        have m3 := HW.out.m3
        clear HJ V2 hj hjn
        go_wp2
        clear m2
        go_loopw [147] (fun i wr => ∃ k : Nat, k ≤ D.nr ∧ i = .int .i64 k ∧ Hid (LV D b' wd wr (fun j' x => j' < D.n → RdR D j' x) (fun j' x => j' < D.n → ScR D j' x) (fun k' x => x = if k' < k then rpOf D k' else (uAll D).getD k' 0) (fun _ x => x = 0))) (fun i _ => D.nr - (intOf i).toNat)
        case atStart => exact ⟨0, by omega, rfl, HK⟩
        case round =>
          clear HK
          obtain ⟨k, hk, rfl, HI⟩ := hrel
          obtain ⟨wr2, hwr2⟩ : ∃ wr2, wr2 = wr := ⟨_, rfl⟩
          subst hwr2
          have V3 := HW.out.below HI.out.bel
          by_cases hkn : k < D.nr
          · obtain ⟨x0, d22, hx0⟩ := HI.out.get22 hkn
            rw [if_neg (Nat.lt_irrefl k)] at hx0
            have f22 := HI.out.fro (k := 22) (by decide) k
            have l22 := HI.out.lt (k := 22) (by decide)
            have m2 : wr2.cell? ⟨b' 24, 2, none⟩ = some (.slice (some ⟨b' 22, 0, none⟩) D.nr D.nr) := HI.out.var 2
            have s13 := V3.s13
            obtain ⟨r1, _, r4, _⟩ := V3.row k hkn
            have hsum : Sums D.nr (uAll D) := uOut_sums HW.out.col.row HW.out.col.bd (fun j hj => (HW.out.var j hj).2.2.2.2.2.2.1) _ (Nat.le_refl _)
            have rs := fun W => run_sub W 41 (sub1_ok r4).1
            have ra := fun W => run_add W 41 (sum_ok (hsum.get k hkn).1 (sub1_ok r4).2).1
            rw [← hx0] at ra
            have HX : Hid (fadd x0 (fsub (fi (D.R k).1) one) = rpOf D k) := by rw [hx0]; rfl
            clear hx0 hsum V3 r4
            have hbl : b 13 < wr2.heap.size := Nat.lt_of_lt_of_le (HW.out.lt.2 13 (by omega)) HI.out.bel.size
            have hSl : S < wr2.heap.size := Nat.lt_of_lt_of_le HW.out.lt.1 HI.out.bel.size
            have hl24 := HI.out.lt (k := 24) (by decide)
            go_wp2
            go_big_region
            go_wp2
            refine ⟨⟨k + 1, by omega, by go_num, ?_⟩, by simp [intOf]; omega⟩
            refine (HI.out.draws 1).set22 k _ (by rw [if_pos (Nat.lt_succ_self k)]; exact HX.out) (fun k' hne y h => ?_)
            rw [h]
            by_cases hc : k' < k
            · rw [if_pos hc, if_pos (by omega)]
            · rw [if_neg hc, if_neg (by omega)]
          · obtain rfl : k = D.nr := by omega
            have HK : Hid (LV D b' wd wr2 (fun j' x => j' < D.n → RdR D j' x) (fun j' x => j' < D.n → ScR D j' x) (fun k x => x = rpOf D k) (fun i' x => x = if i' < 0 then rcOf D i' else 0)) := HI.out.mono (fun k hk x h => by rw [if_pos hk] at h; exact h) (fun i _ x h => h)
            have s4 := V3.s4
            clear HI V3 hk hkn
            go_wp2
            clear s4
            go_loopw [172] (fun i wr => ∃ k : Nat, k ≤ D.m ∧ i = .int .i64 k ∧ Hid (LV D b' wd wr (fun j' x => j' < D.n → RdR D j' x) (fun j' x => j' < D.n → ScR D j' x) (fun k x => x = rpOf D k) (fun i' x => x = if i' < k then rcOf D i' else 0))) (fun i _ => D.m - (intOf i).toNat)
            case atStart => exact ⟨0, by omega, rfl, HK⟩
            case round =>
              clear HK
              obtain ⟨k, hk, rfl, HI⟩ := hrel
              obtain ⟨wr3, hwr3⟩ : ∃ wr3, wr3 = wr := ⟨_, rfl⟩
              subst hwr3
              have V3 := HW.out.below HI.out.bel
              by_cases hkn : k < D.m
              · obtain ⟨x0, d23, _⟩ := HI.out.get23 hkn
                have f23 := HI.out.fro (k := 23) (by decide) k
                have l23 := HI.out.lt (k := 23) (by decide)
                have mm3 : wr3.cell? ⟨b' 24, 3, none⟩ = some (.slice (some ⟨b' 23, 0, none⟩) D.m D.m) := HI.out.var 3
                have s6 := V3.s6
                have s15 := V3.s15
                obtain ⟨u1, u2, u3, u4, u5, y1, y2, y3, y4, y5⟩ := V3.usr k hkn
                have hbl : b 6 < wr3.heap.size := V3.lt.2 6 (by omega)
                have hbl2 : b 15 < wr3.heap.size := V3.lt.2 15 (by omega)
                have hbl3 : b 17 < wr3.heap.size := V3.lt.2 17 (by omega)
                have hSl : S < wr3.heap.size := V3.lt.1
                have hl24 := HI.out.lt (k := 24) (by decide)
                cases hcap : (D.U k).cap with
                | true =>
                  have e1 : limOf D k = fi (D.U k).lim := by unfold limOf; rw [hcap]; rfl
                  rw [e1] at u2
                  have e2 := fi_not_inf y5.1 y5.2
                  have ra := fun W => run_add W 41 (sum_ok (fi_num y2.1 y2.2).notNaN (fi_num y3.1 y3.2)).1
                  have rs := fun W => run_sub W 41 (diff_ok (sum_ok (fi_num y2.1 y2.2).notNaN (fi_num y3.1 y3.2)).2 (fi_num y5.1 y5.2))
                  have HX : Hid (fsub (fadd (fi (D.U k).am) (fi (D.U k).c)) (fi (D.U k).lim) = rcOf D k) := by unfold rcOf; rw [hcap]; rfl
                  clear hcap e1 y1 y2 y3 y4 y5 V3
                  go_wp2
                  go_big_region
                  go_wp2
                  refine ⟨⟨k + 1, by omega, by go_num, ?_⟩, by simp [intOf]; omega⟩
                  refine (HI.out.draws 1).set23 k _ (by rw [if_pos (Nat.lt_succ_self k)]; exact HX.out) (fun k' hne y h => ?_)
                  rw [h]
                  by_cases hc : k' < k
                  · rw [if_pos hc, if_pos (by omega)]
                  · rw [if_neg hc, if_neg (by omega)]
                | false =>
                  have e1 : limOf D k = 9218868437227405312 := by unfold limOf; rw [hcap]; rfl
                  rw [e1] at u2
                  have e2 := inf_inf
                  have HX : Hid (rcOf D k = 0) := by unfold rcOf; rw [hcap]; rfl
                  clear hcap e1 y1 y2 y3 y4 y5 V3
                  go_wp2
                  refine ⟨⟨k + 1, by omega, by go_num, ?_⟩, by simp [intOf]; omega⟩
                  refine HI.out.mono (fun _ _ x h => h) (fun i' _ x h => ?_)
                  rw [h]
                  by_cases hc : i' < k
                  · rw [if_pos hc, if_pos (by omega)]
                  · rw [if_neg hc]
                    by_cases hc' : i' = k
                    · subst hc'
                      rw [if_pos (by omega), HX.out]
                    · rw [if_neg (by omega)]
              · obtain rfl : k = D.m := by omega
                have m0 : wr3.cell? ⟨b' 24, 0, none⟩ = some (.slice (some ⟨b' 20, 0, none⟩) D.n D.n) := HI.out.var 0
                have m1 : wr3.cell? ⟨b' 24, 1, none⟩ = some (.slice (some ⟨b' 21, 0, none⟩) D.n D.n) := HI.out.var 1
                have m2 : wr3.cell? ⟨b' 24, 2, none⟩ = some (.slice (some ⟨b' 22, 0, none⟩) D.nr D.nr) := HI.out.var 2
                have mm3 : wr3.cell? ⟨b' 24, 3, none⟩ = some (.slice (some ⟨b' 23, 0, none⟩) D.m D.m) := HI.out.var 3
                have hZ : w.heap.size < wd.heap.size := HB.out.2.lt
                have Z := HB.out.2.below HI.out.bel hZ
                have z0 : wr3.cell? ⟨w.heap.size, 0, none⟩ = some (.slice none 0 0) := Z.cell 0
                have z1 : wr3.cell? ⟨w.heap.size, 1, none⟩ = some (.slice none 0 0) := Z.cell 1
                have z2 : wr3.cell? ⟨w.heap.size, 2, none⟩ = some (.slice none 0 0) := Z.cell 2
                have z3 : wr3.cell? ⟨w.heap.size, 3, none⟩ = some (.slice none 0 0) := Z.cell 3
                have y0 := Z.frozen 0
                have y1 := Z.frozen 1
                have y2 := Z.frozen 2
                have y3 := Z.frozen 3
                have hzl := Z.lt
                have HF := LV.finish HB.out.1 hZ (HI.out.mono (fun _ _ x h => h) (fun i hi x h => by rw [if_pos hi] at h; exact h)) (.slice (some ⟨b' 20, 0, none⟩) D.n D.n) (.slice (some ⟨b' 21, 0, none⟩) D.n D.n) (.slice (some ⟨b' 22, 0, none⟩) D.nr D.nr) (.slice (some ⟨b' 23, 0, none⟩) D.m D.m)
                obtain ⟨cf, hF⟩ := HF
                have HFF : Hid (Mem [20, 21, 22, 23] b' cf w ((((wr3.setCell ⟨w.heap.size, 0, none⟩ (.slice (some ⟨b' 20, 0, none⟩) D.n D.n)).setCell ⟨w.heap.size, 1, none⟩ (.slice (some ⟨b' 21, 0, none⟩) D.n D.n)).setCell ⟨w.heap.size, 2, none⟩ (.slice (some ⟨b' 22, 0, none⟩) D.nr D.nr)).setCell ⟨w.heap.size, 3, none⟩ (.slice (some ⟨b' 23, 0, none⟩) D.m D.m)) ∧ RowP D.n (RdR D) (cf 20) ∧ RowP D.n (ScR D) (cf 21) ∧ RowP D.nr (fun k x => x = rpOf D k) (cf 22) ∧ RowP D.m (fun i x => x = rcOf D i) (cf 23)) := hF
                have HZ : Hid (Blk ((((wr3.setCell ⟨w.heap.size, 0, none⟩ (.slice (some ⟨b' 20, 0, none⟩) D.n D.n)).setCell ⟨w.heap.size, 1, none⟩ (.slice (some ⟨b' 21, 0, none⟩) D.n D.n)).setCell ⟨w.heap.size, 2, none⟩ (.slice (some ⟨b' 22, 0, none⟩) D.nr D.nr)).setCell ⟨w.heap.size, 3, none⟩ (.slice (some ⟨b' 23, 0, none⟩) D.m D.m)) w.heap.size 51 [.slice (some ⟨b' 20, 0, none⟩) D.n D.n, .slice (some ⟨b' 21, 0, none⟩) D.n D.n, .slice (some ⟨b' 22, 0, none⟩) D.nr D.nr, .slice (some ⟨b' 23, 0, none⟩) D.m D.m]) := (((Z.set 0 _).set 1 _).set 2 _).set 3 _
                clear hF Z HI V3 hk hkn
                go_wp2
                try simp only [Exit.inBlock, Exit.then]
                refine bodyPost_ret (results_cell_row Yba.results7 _ _ w.heap.size 51 _ (0, 0) _ rfl HZ.out Yba.underlying51 rfl (by kernel_rfl)) rfl ?_
                exact ⟨b', cf, rfl, HFF.out⟩
end Go.Proofs.Ybulkbyna

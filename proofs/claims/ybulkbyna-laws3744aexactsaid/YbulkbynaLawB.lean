/- The law's solver is made: six rows in whatever order, and the box. -/
import Derived.Test.YbulkbynaLawC
import Derived.Test.YbulkbynaOrderL
namespace Go.Proofs.Ybulkbyna
open Go.ChangeShapes Go.WideShapes Go.ChangeAt Go.RowKit
set_option linter.unusedVariables false
set_option linter.unusedSimpArgs false

def E6 : List Nat := [2, 4, 6, 8, 10, 12]
structure EG (I : Inp) (wd : World) (rem : List Nat) (vals : Nat → Value) (w : World) (q : Nat → Nat) : Prop where
  bel : Below wd.heap.size wd w
  got : ∀ j ∈ E6, j ∉ rem → wd.heap.size ≤ q j ∧ Blk w (q j) (ty (j / 2)) (List.replicate (rlen' I (j / 2)) (rzero (j / 2))) ∧ vals j = sl (q j) (rlen' I (j / 2))
  inj : ∀ i ∈ E6, ∀ j ∈ E6, i ∉ rem → j ∉ rem → q i = q j → i = j

theorem EG.fresh {I : Inp} {wd w w' : World} {rem : List Nat} {vals : Nat → Value} {q : Nat → Nat} (h : EG I wd rem vals w q) {j G : Nat} (hj : j ∈ E6) (hjr : j ∈ rem) (hb : Below w.heap.size w w') (hG : w.heap.size ≤ G) (hB : Blk w' G (ty (j / 2)) (List.replicate (rlen' I (j / 2)) (rzero (j / 2)))) :
    EG I wd (rem.erase j) (updV vals j (sl G (rlen' I (j / 2)))) w' (upd q j G) := by
  have hmem : ∀ i, i ∉ rem.erase j → i ≠ j → i ∉ rem := fun i h1 h2 h3 => h1 ((List.mem_erase_of_ne h2).2 h3)
  have hlt : ∀ i ∈ E6, i ∉ rem → q i < G := fun i hi hn => by have := (h.got i hi hn).2.1.lt; omega
  refine ⟨h.bel.trans (hb.mono h.bel.size), fun i hi hin => ?_, fun i hi k hk hin hkn e => ?_⟩
  · by_cases e : i = j
    · subst e
      simp only [updV, if_pos, upd_same]
      exact ⟨Nat.le_trans h.bel.size hG, hB, trivial⟩
    · obtain ⟨q1, q2, q3⟩ := h.got i hi (hmem i hin e)
      rw [upd_other _ _ e]
      simp only [updV, if_neg e]
      exact ⟨q1, q2.below hb q2.lt, q3⟩
  · by_cases e1 : i = j <;> by_cases e2 : k = j
    · rw [e1, e2]
    · rw [e1, upd_same, upd_other _ _ e2] at e
      have := hlt k hk (hmem k hkn e2); omega
    · rw [e2, upd_same, upd_other _ _ e1] at e
      have := hlt i hi (hmem i hin e1); omega
    · rw [upd_other _ _ e1, upd_other _ _ e2] at e
      exact h.inj i hi k hk (hmem i hin e1) (hmem k hkn e2) e

def bOf (b0 S : Nat) (q : Nat → Nat) (k : Nat) : Nat := if k = 18 then S else if k = 0 then b0 else q (k * 2)
def cOf (I : Inp) (b : Nat → Nat) (k : Nat) : List Value := if k = 18 then solv0 I b else if k = 0 then uCells I.us I.m else List.replicate (rlen' I k) (rzero k)
theorem EG.mem {I : Inp} {wd w : World} {vals : Nat → Value} {q : Nat → Nat} {b0 : Nat} (h : EG I wd [] vals w q) (hb0 : Blk wd b0 30 (uCells I.us I.m)) (hbase : I.w0.heap.size ≤ b0) (hbel : Below I.w0.heap.size I.w0 wd) :
    Mem (LS 0) (bOf b0 w.heap.size q) (cOf I (bOf b0 w.heap.size q)) I.w0 (w.alloc (.cells (solv0 I (bOf b0 w.heap.size q)).toArray 40)) := by
  have hE : ∀ k ∈ LS 0, k ≠ 18 → k ≠ 0 → k * 2 ∈ E6 ∧ k * 2 / 2 = k := by decide
  have hB : ∀ k ∈ LS 0, k ≠ 18 → Blk w (bOf b0 w.heap.size q k) (ty k) (cOf I (bOf b0 w.heap.size q) k) := by
    intro k hk h18
    by_cases h0 : k = 0
    · subst h0; exact hb0.below h.bel hb0.lt
    · obtain ⟨h1, h2⟩ := hE k hk h18 h0
      have := (h.got _ h1 (by simp)).2.1
      rw [h2] at this
      unfold bOf cOf
      rw [if_neg h18, if_neg h0, if_neg h18, if_neg h0]
      exact this
  have hb18 : bOf b0 w.heap.size q 18 = w.heap.size := rfl
  refine ⟨fun k hk => ?_, fun k hk => ?_, fun i hi j hj e => ?_, (hbel.trans (h.bel.mono hbel.size)).alloc (Nat.le_trans hbel.size h.bel.size) _⟩
  · by_cases h18 : k = 18
    · subst h18
      exact blk_new w (solv0 I (bOf b0 w.heap.size q)).toArray 40
    · exact (hB k hk h18).alloc _
  · by_cases h18 : k = 18
    · subst h18; rw [hb18]; exact Nat.le_trans hbel.size h.bel.size
    · by_cases h0 : k = 0
      · subst h0; exact hbase
      · obtain ⟨h1, h2⟩ := hE k hk h18 h0
        have := (h.got _ h1 (by simp)).1
        unfold bOf
        rw [if_neg h18, if_neg h0]
        exact Nat.le_trans hbel.size this
  · by_cases e1 : i = 18 <;> by_cases e2 : j = 18
    · rw [e1, e2]
    · subst e1; rw [hb18] at e; have := (hB j hj e2).lt; omega
    · subst e2; rw [hb18] at e; have := (hB i hi e1).lt; omega
    · have hT : ∀ i ∈ LS 0, ∀ j ∈ LS 0, i ≠ 18 → j ≠ 18 → (i = 0 ∧ j ≠ 0 ∨ i ≠ 0 ∧ j = 0) → ty i ≠ ty j := by decide
      by_cases z1 : i = 0 <;> by_cases z2 : j = 0
      · rw [z1, z2]
      · exact absurd e ((hB i hi e1).ne (hB j hj e2) (hT i hi j hj e1 e2 (Or.inl ⟨z1, z2⟩)))
      · exact absurd e ((hB i hi e1).ne (hB j hj e2) (hT i hi j hj e1 e2 (Or.inr ⟨z1, z2⟩)))
      · unfold bOf at e
        rw [if_neg e1, if_neg z1, if_neg e2, if_neg z2] at e
        have := h.inj _ (hE i hi e1 z1).1 _ (hE j hj e2 z2).1 (by simp) (by simp) e
        omega

/-- Ahead of the solver. -/
structure P10 (I : Inp) (b0 : Nat) (g : Nat → Value) (w : World) : Prop where
  blk : Blk w b0 30 (uCells I.us I.m)
  base : I.w0.heap.size ≤ b0
  bel : Below I.w0.heap.size I.w0 w
  s0 : g 0 = .slice I.av I.nv I.cv
  s1 : g 1 = .slice I.au I.nu I.cu
  s2 : g 2 = .slice I.ar I.nr I.cr
  s9 : g 9 = .int .i64 I.m
  s10 : g 10 = .slice (some ⟨b0, 0, none⟩) I.m I.m
  s11 : g 11 = .int .i64 I.nv
  s12 : g 12 = .int .i64 I.nr

set_option maxRecDepth 1000000 in
set_option maxHeartbeats 4000000 in
theorem it10 {I : Inp} {b0 : Nat} {g : Nat → Value} {w : World} (hI : I.Ok) (hp : P10 I b0 g w) (Rq : Ending → World → Prop) :
    (item 10).wp Yba.prog (Exit.then (Mid (Pre I (LS 0) (SV 0 I))) (bodyPost Yba.prog Yba.f3 Rq)) (Fr g) w := by
  obtain ⟨i41, hi41, ha0, ha1, ha2⟩ := info_parts info41
  obtain ⟨i3, hi3, hb0, hb1, hb2⟩ := info_parts info3
  obtain ⟨i42, hi42, hc0, hc1, hc2⟩ := info_parts info42
  obtain ⟨i32, hi32, hd0, hd1, hd2⟩ := info_parts info32
  have hv3 := hI.v3
  have hm3 := (Inp.m3 hI).1
  have x41v : i41.bytes * I.nv ≤ 281474976710656 := by rw [ha2]; omega
  have x41m : i41.bytes * I.m ≤ 281474976710656 := by rw [ha2]; omega
  have x3v : i3.bytes * I.nv ≤ 281474976710656 := by rw [hb2]; omega
  have x42v : i42.bytes * I.nv ≤ 281474976710656 := by rw [hc2]; omega
  have x32m : i32.bytes * I.m ≤ 281474976710656 := by rw [hd2]; omega
  have xv : I.nv ≤ maxLen := by unfold maxLen; omega
  have xm : I.m ≤ maxLen := by unfold maxLen; omega
  rw [Fr_lit, hp.s0, hp.s1, hp.s2, hp.s9, hp.s10, hp.s11, hp.s12]
  have HP : Hid (P10 I b0 g w) := hp
  clear hp hI
  conv => arg 2; whnf
  refine AnyL.region (S := fun _ => True) (L := 16) (by kernel_rfl) ?_
  refine AnyL.takeW' (i := 0) (d := 93) (v := .int .i64 I.nv) rfl rfl (by kernel_rfl) (by decide) (by kernel_rfl) (by kernel_rfl) (fun _ _ _ h => h) rfl (fun w => by go_simp) trivial ?_
  try simp only [Act.put, List.setIfInBounds_toArray, List.set_cons_zero, List.set_cons_succ]
  refine AnyL.takeW' (i := 1) (d := 94) (v := .int .i64 I.nv) rfl rfl (by kernel_rfl) (by decide) (by kernel_rfl) (by kernel_rfl) (fun _ _ _ h => h) rfl (fun w => by go_simp) trivial ?_
  try simp only [Act.put, List.setIfInBounds_toArray, List.set_cons_zero, List.set_cons_succ]
  refine AnyL.takeW' (i := 3) (d := 96) (v := .int .i64 I.nv) rfl rfl (by kernel_rfl) (by decide) (by kernel_rfl) (by kernel_rfl) (fun _ _ _ h => h) rfl (fun w => by go_simp) trivial ?_
  try simp only [Act.put, List.setIfInBounds_toArray, List.set_cons_zero, List.set_cons_succ]
  refine AnyL.takeW' (i := 5) (d := 98) (v := .int .i64 I.nv) rfl rfl (by kernel_rfl) (by decide) (by kernel_rfl) (by kernel_rfl) (fun _ _ _ h => h) rfl (fun w => by go_simp) trivial ?_
  try simp only [Act.put, List.setIfInBounds_toArray, List.set_cons_zero, List.set_cons_succ]
  refine AnyL.takeW' (i := 7) (d := 100) (v := .int .i64 I.m) rfl rfl (by kernel_rfl) (by decide) (by kernel_rfl) (by kernel_rfl) (fun _ _ _ h => h) rfl (fun w => by go_simp) trivial ?_
  try simp only [Act.put, List.setIfInBounds_toArray, List.set_cons_zero, List.set_cons_succ]
  refine AnyL.takeW' (i := 9) (d := 102) (v := .int .i64 I.m) rfl rfl (by kernel_rfl) (by decide) (by kernel_rfl) (by kernel_rfl) (fun _ _ _ h => h) rfl (fun w => by go_simp) trivial ?_
  try simp only [Act.put, List.setIfInBounds_toArray, List.set_cons_zero, List.set_cons_succ]
  refine AnyL.takeW' (i := 11) (d := 104) (v := .int .i64 I.m) rfl rfl (by kernel_rfl) (by decide) (by kernel_rfl) (by kernel_rfl) (fun _ _ _ h => h) rfl (fun w => by go_simp) trivial ?_
  try simp only [Act.put, List.setIfInBounds_toArray, List.set_cons_zero, List.set_cons_succ]
  refine AnyL.takeW' (i := 13) (d := 106) (v := .int .i64 I.nr) rfl rfl (by kernel_rfl) (by decide) (by kernel_rfl) (by kernel_rfl) (fun _ _ _ h => h) rfl (fun w => by go_simp) trivial ?_
  try simp only [Act.put, List.setIfInBounds_toArray, List.set_cons_zero, List.set_cons_succ]
  have hd : ∀ rem : List Nat, ∀ s : Nat, s ≠ 95 → s ≠ 97 → s ≠ 99 → s ≠ 101 → s ≠ 103 → s ≠ 105 → ∀ j ∈ ([2, 4, 6, 8, 10, 12] : List Nat), j ∉ rem → (fun j => 93 + j) j ≠ s := by
    intro rem s h1 h2 h3 h4 h5 h6 j hj _
    simp only [List.mem_cons, List.not_mem_nil, or_false] at hj
    rcases hj with rfl | rfl | rfl | rfl | rfl | rfl <;> simp <;> omega
  refine AnyL.effects (R := [2, 4, 6, 8, 10, 12]) (dst := fun j => 93 + j) (fun rem vals w' => rem.Nodup ∧ ∃ q, EG I w.drew rem vals w' q) (by kernel_rfl) (by kernel_rfl) (by decide) ?hsz ?hlz ?hS ?hstep 3 ?hend [2, 4, 6, 8, 10, 12] (by decide) (fun _ h => h) 6 rfl (fun _ => undef) _ _ _ (St.start _ _ _ _ _) ⟨by decide, fun _ => 0, ⟨Below.refl _ _, fun j hj hn => absurd hj (by intro h; exact hn (by revert h; revert j; decide)), fun i hi j hj hn => absurd hi (by intro h; exact hn (by revert h; revert i; decide))⟩⟩
  case hsz => intro j hj; show 93 + j < 566; revert j; decide
  case hlz => intro j hj; show j < 17; revert j; decide
  case hS => intro rem vals w' _; trivial
  case hstep =>
    intro rem j vals a l w' hj hsub hst hrd hI K hK
    obtain ⟨hnd, q, hE⟩ := hI
    have hjR := hsub j hj
    simp only [List.mem_cons, List.not_mem_nil, or_false] at hjR
    rcases hjR with rfl | rfl | rfl | rfl | rfl | rfl
    · have eS : a.eval (.tmp 94) = .int .i64 I.nv := by
        have := hst.old 94 (hd rem 94 (by decide) (by decide) (by decide) (by decide) (by decide) (by decide))
        show a.tmps.getD 94 undef = _
        rw [Array.getD_eq_getD_getElem?, this]; rfl
      refine wpOp_of (o := _) rfl rfl (op_make (.tmp 94) (.tmp 94) 32 rfl w'.heap.size 3 i3 _ 1 Yba.underlying32 hi3 hb0 hb1 .i64 .i64 I.nv eS eS x3v xv (Nat.le_refl _) ?_)
      intro w'' ho hg
      have hb := (Blk.made ho).1
      rw [made_one _ _ rfl] at hb
      exact hK _ _ ⟨hnd.erase _, _, hE.fresh (j := 2) (by decide) hj ((Below.refl _ _).grown hg (Nat.le_refl _) (fun k h => by cases h)) (Nat.le_refl _) hb⟩
    · have eS : a.eval (.tmp 96) = .int .i64 I.nv := by
        have := hst.old 96 (hd rem 96 (by decide) (by decide) (by decide) (by decide) (by decide) (by decide))
        show a.tmps.getD 96 undef = _
        rw [Array.getD_eq_getD_getElem?, this]; rfl
      refine wpOp_of (o := _) rfl rfl (op_make (.tmp 96) (.tmp 96) 33 rfl w'.heap.size 41 i41 _ 1 Yba.underlying33 hi41 ha0 ha1 .i64 .i64 I.nv eS eS x41v xv (Nat.le_refl _) ?_)
      intro w'' ho hg
      have hb := (Blk.made ho).1
      rw [made_one _ _ rfl] at hb
      exact hK _ _ ⟨hnd.erase _, _, hE.fresh (j := 4) (by decide) hj ((Below.refl _ _).grown hg (Nat.le_refl _) (fun k h => by cases h)) (Nat.le_refl _) hb⟩
    · have eS : a.eval (.tmp 98) = .int .i64 I.nv := by
        have := hst.old 98 (hd rem 98 (by decide) (by decide) (by decide) (by decide) (by decide) (by decide))
        show a.tmps.getD 98 undef = _
        rw [Array.getD_eq_getD_getElem?, this]; rfl
      refine wpOp_of (o := _) rfl rfl (op_make (.tmp 98) (.tmp 98) 34 rfl w'.heap.size 42 i42 _ 1 Yba.underlying34 hi42 hc0 hc1 .i64 .i64 I.nv eS eS x42v xv (Nat.le_refl _) ?_)
      intro w'' ho hg
      have hb := (Blk.made ho).1
      rw [made_one _ _ rfl] at hb
      exact hK _ _ ⟨hnd.erase _, _, hE.fresh (j := 6) (by decide) hj ((Below.refl _ _).grown hg (Nat.le_refl _) (fun k h => by cases h)) (Nat.le_refl _) hb⟩
    · have eS : a.eval (.tmp 100) = .int .i64 I.m := by
        have := hst.old 100 (hd rem 100 (by decide) (by decide) (by decide) (by decide) (by decide) (by decide))
        show a.tmps.getD 100 undef = _
        rw [Array.getD_eq_getD_getElem?, this]; rfl
      refine wpOp_of (o := _) rfl rfl (op_make (.tmp 100) (.tmp 100) 35 rfl w'.heap.size 32 i32 _ 1 Yba.underlying35 hi32 hd0 hd1 .i64 .i64 I.m eS eS x32m xm (Nat.le_refl _) ?_)
      intro w'' ho hg
      have hb := (Blk.made ho).1
      rw [made_one _ _ rfl] at hb
      exact hK _ _ ⟨hnd.erase _, _, hE.fresh (j := 8) (by decide) hj ((Below.refl _ _).grown hg (Nat.le_refl _) (fun k h => by cases h)) (Nat.le_refl _) hb⟩
    · have eS : a.eval (.tmp 102) = .int .i64 I.m := by
        have := hst.old 102 (hd rem 102 (by decide) (by decide) (by decide) (by decide) (by decide) (by decide))
        show a.tmps.getD 102 undef = _
        rw [Array.getD_eq_getD_getElem?, this]; rfl
      refine wpOp_of (o := _) rfl rfl (op_make (.tmp 102) (.tmp 102) 33 rfl w'.heap.size 41 i41 _ 1 Yba.underlying33 hi41 ha0 ha1 .i64 .i64 I.m eS eS x41m xm (Nat.le_refl _) ?_)
      intro w'' ho hg
      have hb := (Blk.made ho).1
      rw [made_one _ _ rfl] at hb
      exact hK _ _ ⟨hnd.erase _, _, hE.fresh (j := 10) (by decide) hj ((Below.refl _ _).grown hg (Nat.le_refl _) (fun k h => by cases h)) (Nat.le_refl _) hb⟩
    · have eS : a.eval (.tmp 104) = .int .i64 I.m := by
        have := hst.old 104 (hd rem 104 (by decide) (by decide) (by decide) (by decide) (by decide) (by decide))
        show a.tmps.getD 104 undef = _
        rw [Array.getD_eq_getD_getElem?, this]; rfl
      refine wpOp_of (o := _) rfl rfl (op_make (.tmp 104) (.tmp 104) 33 rfl w'.heap.size 41 i41 _ 1 Yba.underlying33 hi41 ha0 ha1 .i64 .i64 I.m eS eS x41m xm (Nat.le_refl _) ?_)
      intro w'' ho hg
      have hb := (Blk.made ho).1
      rw [made_one _ _ rfl] at hb
      exact hK _ _ ⟨hnd.erase _, _, hE.fresh (j := 12) (by decide) hj ((Below.refl _ _).grown hg (Nat.le_refl _) (fun k h => by cases h)) (Nat.le_refl _) hb⟩
  case hend =>
    rintro vals a l w' hst ⟨_, q, hE⟩
    obtain ⟨ha, hl⟩ := hst.over
    have q2 : vals 2 = .slice (some ⟨q 2, 0, none⟩) I.nv I.nv := (hE.got 2 (by decide) (by simp)).2.2
    have q4 : vals 4 = .slice (some ⟨q 4, 0, none⟩) I.nv I.nv := (hE.got 4 (by decide) (by simp)).2.2
    have q6 : vals 6 = .slice (some ⟨q 6, 0, none⟩) I.nv I.nv := (hE.got 6 (by decide) (by simp)).2.2
    have q8 : vals 8 = .slice (some ⟨q 8, 0, none⟩) I.m I.m := (hE.got 8 (by decide) (by simp)).2.2
    have q10 : vals 10 = .slice (some ⟨q 10, 0, none⟩) I.m I.m := (hE.got 10 (by decide) (by simp)).2.2
    have q12 : vals 12 = .slice (some ⟨q 12, 0, none⟩) I.m I.m := (hE.got 12 (by decide) (by simp)).2.2
    have HM := hE.mem (b0 := b0) (HP.out.blk.draws 1) HP.out.base HP.out.bel.drew
    clear hst hE hd
    subst hl
    simp only [List.foldl_cons, List.foldl_nil, List.setIfInBounds_toArray, List.set_cons_zero, List.set_cons_succ, q2, q4, q6, q8, q10, q12, Nat.reduceAdd] at ha
    subst ha
    clear q2 q4 q6 q8 q10 q12 vals
    have HMM : Hid (Mem (LS 0) (bOf b0 w'.heap.size q) (cOf I (bOf b0 w'.heap.size q)) I.w0 (w'.alloc (.cells (solv0 I (bOf b0 w'.heap.size q)).toArray 40))) := HM
    clear HM
    refine AnyL.one (i := 14) (by kernel_rfl) rfl rfl (fun K hK => ?_)
    go_simp
    refine hK.out _ _ (fun _ => trivial) ?_
    clear hK K
    refine AnyL.one (i := 15) (by kernel_rfl) rfl rfl (fun K hK => ?_)
    go_simp
    refine hK.out _ _ (fun _ => trivial) ?_
    clear hK K
    refine AnyL.one (i := 16) (by kernel_rfl) rfl rfl (fun K hK => ?_)
    go_simp
    refine hK.out _ _ (fun _ => trivial) ?_
    clear hK K
    refine AnyL.done (by kernel_rfl) ?_
    show Mid _ _ _
    refine mid_intro (by kernel_rfl) ⟨bOf b0 w'.heap.size q, cOf I (bOf b0 w'.heap.size q), HMM.out, rfl, rfl, ?_, by kernel_rfl, by kernel_rfl, by kernel_rfl, by kernel_rfl, by kernel_rfl, by kernel_rfl, by kernel_rfl, by kernel_rfl⟩
    intro k hk h0 h18
    unfold cOf
    rw [if_neg h18, if_neg h0]
end Go.Proofs.Ybulkbyna

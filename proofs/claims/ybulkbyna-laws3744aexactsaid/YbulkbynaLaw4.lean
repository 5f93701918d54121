/- The law's loop over the users. -/
import Derived.Test.YbulkbynaLawM
import Derived.Test.YbulkbynaOrderL
namespace Go.Proofs.Ybulkbyna
open Go.ChangeShapes Go.WideShapes Go.ChangeAt Go.RowKit
set_option linter.unusedVariables false
set_option linter.unusedSimpArgs false

set_option maxRecDepth 1000000 in
set_option maxHeartbeats 4000000 in
theorem it19 {I : Inp} {b : Nat → Nat} {g : Nat → Value} {w : World} (hI : I.Ok) (hb : Base I b g) (hB : Bld I b w I.nv (cntOf I.nv 0 0)) (Rq : Ending → World → Prop) :
    (item 19).wp Yba.prog (Exit.then (Mid (fun g' w' => Base I b g' ∧ Bld I b w' I.nv (cntOf I.nv I.m 0))) (bodyPost Yba.prog Yba.f3 Rq)) (Fr g) w := by
  rw [Fr_lit, hb.s0, hb.s1, hb.s2, hb.s9, hb.s10, hb.s11, hb.s12, hb.s13, hb.s14]
  have HB : Hid (Bld I b w I.nv (cntOf I.nv 0 0)) := hB
  have HI : Hid I.Ok := hI
  have hm3 := (Inp.m3 hI).1
  clear hb hB hI
  conv => arg 2; whnf
  go_wp2_with fail
  go_loopw [248] (fun i wr => ∃ k : Nat, k ≤ I.m ∧ i = .int .i64 k ∧ Hid (Bld I b wr I.nv (cntOf I.nv k 0))) (fun i _ => I.m - (intOf i).toNat)
  case atStart => exact ⟨0, by omega, rfl, HB⟩
  case round =>
    clear HB
    obtain ⟨k, hk, rfl, HJ⟩ := hrel
    obtain ⟨w1, hw1⟩ : ∃ w1, w1 = wr := ⟨_, rfl⟩
    subst hw1
    by_cases hkn : k < I.m
    · have c0 : w1.cell? ⟨b 0, k * 6, none⟩ = some (.int .i8 (I.us k).w) := HJ.out.user (k := 0) hkn (by omega)
      have c1 : w1.cell? ⟨b 0, k * 6 + 1, none⟩ = some (.int .i8 (I.us k).am) := HJ.out.user (k := 1) hkn (by omega)
      have c2 : w1.cell? ⟨b 0, k * 6 + 2, none⟩ = some (.int .i8 (I.us k).c) := HJ.out.user (k := 2) hkn (by omega)
      have c3 : w1.cell? ⟨b 0, k * 6 + 3, none⟩ = some (.int .i8 (I.us k).eta) := HJ.out.user (k := 3) hkn (by omega)
      have c4 : w1.cell? ⟨b 0, k * 6 + 4, none⟩ = some (.int .i8 (I.us k).lim) := HJ.out.user (k := 4) hkn (by omega)
      have c5 : w1.cell? ⟨b 0, k * 6 + 5, none⟩ = some (.bool (I.us k).cap) := HJ.out.user (k := 5) hkn (by omega)
      have l0 := HJ.out.lt (k := 0) (by decide)
      go_wp2
      have hP0 := blk_new w1 #[.int .i8 (I.us k).w, .int .i8 (I.us k).am, .int .i8 (I.us k).c, .int .i8 (I.us k).eta, .int .i8 (I.us k).lim, .bool (I.us k).cap] 30
      have hB0 := HJ.out.alloc (.cells #[.int .i8 (I.us k).w, .int .i8 (I.us k).am, .int .i8 (I.us k).c, .int .i8 (I.us k).eta, .int .i8 (I.us k).lim, .bool (I.us k).cap] 30)
      obtain ⟨p, hp⟩ : ∃ p, p = w1.heap.size := ⟨_, rfl⟩
      obtain ⟨w2, hw2⟩ : ∃ w2, w2 = w1.alloc (.cells #[.int .i8 (I.us k).w, .int .i8 (I.us k).am, .int .i8 (I.us k).c, .int .i8 (I.us k).eta, .int .i8 (I.us k).lim, .bool (I.us k).cap] 30) := ⟨_, rfl⟩
      rw [← hw2, ← hp] at hP0
      rw [← hw2] at hB0
      rw [← hp, ← hw2]
      have H2 : Hid (Bld I b w2 I.nv (cntOf I.nv k 0) ∧ Blk w2 p 30 [.int .i8 (I.us k).w, .int .i8 (I.us k).am, .int .i8 (I.us k).c, .int .i8 (I.us k).eta, .int .i8 (I.us k).lim, .bool (I.us k).cap]) := ⟨hB0, hP0⟩
      clear hp hw2 hP0 hB0 HJ c0 c1 c2 c3 c4 c5 l0 w1
      have sS : w2.cell? ⟨b 18, 5, none⟩ = some (.slice (some ⟨b 5, 0, none⟩) I.m I.m) := H2.out.1.solv 5
      obtain ⟨xS, dS⟩ := H2.out.1.some (k := 5) (by decide) (show k < I.m from hkn)
      have fS := H2.out.1.fro (k := 5) (by decide) k
      have pS : w2.cell? ⟨p, 0, none⟩ = some (.int .i8 (I.us k).w) := H2.out.2.cell 0
      have lS := H2.out.1.lt (k := 5) (by decide)
      have l18 := H2.out.1.lt (k := 18) (by decide)
      have lp := H2.out.2.lt
      go_big_region
      have hB' : Bld I b ((w2.setCell ⟨b 5, k, none⟩ (.float .f64 (floatOfInt .f64 (I.us k).w))).drew) I.nv (upd (cntOf I.nv k 0) 5 (k + 1)) := (H2.out.1.put_eq 5 (by decide) k (by rfl) _ (rfl)).draws 1
      have hP' : Blk ((w2.setCell ⟨b 5, k, none⟩ (.float .f64 (floatOfInt .f64 (I.us k).w))).drew) p 30 [.int .i8 (I.us k).w, .int .i8 (I.us k).am, .int .i8 (I.us k).c, .int .i8 (I.us k).eta, .int .i8 (I.us k).lim, .bool (I.us k).cap] := (H2.out.2.other (H2.out.1.apart_ty (k := 5) (by decide) H2.out.2 (by decide)) k _).draws 1
      obtain ⟨w3, hw'⟩ : ∃ w3, w3 = ((w2.setCell ⟨b 5, k, none⟩ (.float .f64 (floatOfInt .f64 (I.us k).w))).drew) := ⟨_, rfl⟩
      rw [← hw'] at hB' hP' ⊢
      have H3 : Hid (Bld I b w3 I.nv (upd (cntOf I.nv k 0) 5 (k + 1)) ∧ Blk w3 p 30 [.int .i8 (I.us k).w, .int .i8 (I.us k).am, .int .i8 (I.us k).c, .int .i8 (I.us k).eta, .int .i8 (I.us k).lim, .bool (I.us k).cap]) := ⟨hB', hP'⟩
      clear hw' hP' hB' H2 sS dS fS pS lS l18 lp xS w2
      have q5 : w3.cell? ⟨p, 5, none⟩ = some (.bool (I.us k).cap) := H3.out.2.cell 5
      cases hcap : (I.us k).cap with
      | true =>
        rw [hcap] at q5
        have hlim : rval I 6 k = .float .f64 (floatOfInt .f64 (I.us k).lim) := by show Value.float .f64 (limOf (dat I) k) = _; unfold limOf; rw [if_pos (show ((dat I).U k).cap = true from hcap)]; rfl
        clear hcap
        go_wp2
        clear q5
        have sS : w3.cell? ⟨b 18, 6, none⟩ = some (.slice (some ⟨b 6, 0, none⟩) I.m I.m) := H3.out.1.solv 6
        obtain ⟨xS, dS⟩ := H3.out.1.some (k := 6) (by decide) (show k < I.m from hkn)
        have fS := H3.out.1.fro (k := 6) (by decide) k
        have pS : w3.cell? ⟨p, 4, none⟩ = some (.int .i8 (I.us k).lim) := H3.out.2.cell 4
        have lS := H3.out.1.lt (k := 6) (by decide)
        have l18 := H3.out.1.lt (k := 18) (by decide)
        have lp := H3.out.2.lt
        go_big_region
        go_wp2
        have hB' : Bld I b ((w3.setCell ⟨b 6, k, none⟩ (.float .f64 (floatOfInt .f64 (I.us k).lim))).drew) I.nv (upd (upd (cntOf I.nv k 0) 5 (k + 1)) 6 (k + 1)) := (H3.out.1.put_eq 6 (by decide) k (by rfl) _ (hlim)).draws 1
        have hP' : Blk ((w3.setCell ⟨b 6, k, none⟩ (.float .f64 (floatOfInt .f64 (I.us k).lim))).drew) p 30 [.int .i8 (I.us k).w, .int .i8 (I.us k).am, .int .i8 (I.us k).c, .int .i8 (I.us k).eta, .int .i8 (I.us k).lim, .bool (I.us k).cap] := (H3.out.2.other (H3.out.1.apart_ty (k := 6) (by decide) H3.out.2 (by decide)) k _).draws 1
        obtain ⟨w4, hw'⟩ : ∃ w4, w4 = ((w3.setCell ⟨b 6, k, none⟩ (.float .f64 (floatOfInt .f64 (I.us k).lim))).drew) := ⟨_, rfl⟩
        rw [← hw'] at hB' hP' ⊢
        have H4 : Hid (Bld I b w4 I.nv (upd (upd (cntOf I.nv k 0) 5 (k + 1)) 6 (k + 1)) ∧ Blk w4 p 30 [.int .i8 (I.us k).w, .int .i8 (I.us k).am, .int .i8 (I.us k).c, .int .i8 (I.us k).eta, .int .i8 (I.us k).lim, .bool (I.us k).cap]) := ⟨hB', hP'⟩
        clear hw' hP' hB' H3 sS dS fS pS lS l18 lp xS w3
        have sS : w4.cell? ⟨b 18, 15, none⟩ = some (.slice (some ⟨b 15, 0, none⟩) I.m I.m) := H4.out.1.solv 15
        obtain ⟨xS, dS⟩ := H4.out.1.some (k := 15) (by decide) (show k < I.m from hkn)
        have fS := H4.out.1.fro (k := 15) (by decide) k
        have pS : w4.cell? ⟨p, 2, none⟩ = some (.int .i8 (I.us k).c) := H4.out.2.cell 2
        have lS := H4.out.1.lt (k := 15) (by decide)
        have l18 := H4.out.1.lt (k := 18) (by decide)
        have lp := H4.out.2.lt
        go_big_region
        go_wp2
        have hB' : Bld I b ((w4.setCell ⟨b 15, k, none⟩ (.float .f64 (floatOfInt .f64 (I.us k).c))).drew) I.nv (upd (upd (upd (cntOf I.nv k 0) 5 (k + 1)) 6 (k + 1)) 15 (k + 1)) := (H4.out.1.put_eq 15 (by decide) k (by rfl) _ (rfl)).draws 1
        have hP' : Blk ((w4.setCell ⟨b 15, k, none⟩ (.float .f64 (floatOfInt .f64 (I.us k).c))).drew) p 30 [.int .i8 (I.us k).w, .int .i8 (I.us k).am, .int .i8 (I.us k).c, .int .i8 (I.us k).eta, .int .i8 (I.us k).lim, .bool (I.us k).cap] := (H4.out.2.other (H4.out.1.apart_ty (k := 15) (by decide) H4.out.2 (by decide)) k _).draws 1
        obtain ⟨w5, hw'⟩ : ∃ w5, w5 = ((w4.setCell ⟨b 15, k, none⟩ (.float .f64 (floatOfInt .f64 (I.us k).c))).drew) := ⟨_, rfl⟩
        rw [← hw'] at hB' hP' ⊢
        have H5 : Hid (Bld I b w5 I.nv (upd (upd (upd (cntOf I.nv k 0) 5 (k + 1)) 6 (k + 1)) 15 (k + 1)) ∧ Blk w5 p 30 [.int .i8 (I.us k).w, .int .i8 (I.us k).am, .int .i8 (I.us k).c, .int .i8 (I.us k).eta, .int .i8 (I.us k).lim, .bool (I.us k).cap]) := ⟨hB', hP'⟩
        clear hw' hP' hB' H4 sS dS fS pS lS l18 lp xS w4
        have sS : w5.cell? ⟨b 18, 16, none⟩ = some (.slice (some ⟨b 16, 0, none⟩) I.m I.m) := H5.out.1.solv 16
        obtain ⟨xS, dS⟩ := H5.out.1.some (k := 16) (by decide) (show k < I.m from hkn)
        have fS := H5.out.1.fro (k := 16) (by decide) k
        have pS : w5.cell? ⟨p, 3, none⟩ = some (.int .i8 (I.us k).eta) := H5.out.2.cell 3
        have lS := H5.out.1.lt (k := 16) (by decide)
        have l18 := H5.out.1.lt (k := 18) (by decide)
        have lp := H5.out.2.lt
        go_big_region
        have hB' : Bld I b ((w5.setCell ⟨b 16, k, none⟩ (.float .f64 (floatOfInt .f64 (I.us k).eta))).drew) I.nv (upd (upd (upd (upd (cntOf I.nv k 0) 5 (k + 1)) 6 (k + 1)) 15 (k + 1)) 16 (k + 1)) := (H5.out.1.put_eq 16 (by decide) k (by rfl) _ (rfl)).draws 1
        have hP' : Blk ((w5.setCell ⟨b 16, k, none⟩ (.float .f64 (floatOfInt .f64 (I.us k).eta))).drew) p 30 [.int .i8 (I.us k).w, .int .i8 (I.us k).am, .int .i8 (I.us k).c, .int .i8 (I.us k).eta, .int .i8 (I.us k).lim, .bool (I.us k).cap] := (H5.out.2.other (H5.out.1.apart_ty (k := 16) (by decide) H5.out.2 (by decide)) k _).draws 1
        obtain ⟨w6, hw'⟩ : ∃ w6, w6 = ((w5.setCell ⟨b 16, k, none⟩ (.float .f64 (floatOfInt .f64 (I.us k).eta))).drew) := ⟨_, rfl⟩
        rw [← hw'] at hB' hP' ⊢
        have H6 : Hid (Bld I b w6 I.nv (upd (upd (upd (upd (cntOf I.nv k 0) 5 (k + 1)) 6 (k + 1)) 15 (k + 1)) 16 (k + 1)) ∧ Blk w6 p 30 [.int .i8 (I.us k).w, .int .i8 (I.us k).am, .int .i8 (I.us k).c, .int .i8 (I.us k).eta, .int .i8 (I.us k).lim, .bool (I.us k).cap]) := ⟨hB', hP'⟩
        clear hw' hP' hB' H5 sS dS fS pS lS l18 lp xS w5
        obtain ⟨xS, dS⟩ := H6.out.1.some (k := 17) (by decide) (show k < I.m from hkn)
        have fS := H6.out.1.fro (k := 17) (by decide) k
        have pS : w6.cell? ⟨p, 1, none⟩ = some (.int .i8 (I.us k).am) := H6.out.2.cell 1
        have lS := H6.out.1.lt (k := 17) (by decide)
        have lp := H6.out.2.lt
        go_wp2
        refine ⟨⟨k + 1, by omega, by go_num, ?_⟩, by simp [intOf]; omega⟩
        refine Bld.congr (H6.out.1.put_eq 17 (by decide) k (by rfl) _ (by rfl)) _ ?_
        intro q hq
        simp only [TT, List.mem_cons, List.not_mem_nil, or_false] at hq
        rcases hq with rfl | rfl | rfl | rfl | rfl | rfl | rfl | rfl | rfl | rfl | rfl | rfl <;> rfl
      | false =>
        rw [hcap] at q5
        have hlim : rval I 6 k = .float .f64 9218868437227405312 := by show Value.float .f64 (limOf (dat I) k) = _; unfold limOf; rw [if_neg (show ¬ ((dat I).U k).cap = true by rw [show ((dat I).U k).cap = false from hcap]; decide)]; rfl
        clear hcap
        go_wp2
        clear q5
        have sS : w3.cell? ⟨b 18, 6, none⟩ = some (.slice (some ⟨b 6, 0, none⟩) I.m I.m) := H3.out.1.solv 6
        obtain ⟨xS, dS⟩ := H3.out.1.some (k := 6) (by decide) (show k < I.m from hkn)
        have fS := H3.out.1.fro (k := 6) (by decide) k
        have lS := H3.out.1.lt (k := 6) (by decide)
        have l18 := H3.out.1.lt (k := 18) (by decide)
        have lp := H3.out.2.lt
        have hS : w3.drew.cell? ⟨b 18, 6, none⟩ = some (.slice (some ⟨b 6, 0, none⟩) I.m I.m) := sS
        refine AnyL.region (S := fun w' => w'.cell? ⟨b 18, 6, none⟩ = some (.slice (some ⟨b 6, 0, none⟩) I.m I.m)) (L := 7) (by kernel_rfl) ?_
        refine AnyL.takeW' (i := 0) (d := 273) (v := .pointer (some ⟨b 18, 0, none⟩)) rfl rfl (by kernel_rfl) (by decide) (by kernel_rfl) (by kernel_rfl) (fun _ _ _ h => h) rfl (fun w => by go_simp) hS ?_
        try simp only [Act.put, List.setIfInBounds_toArray, List.set_cons_zero, List.set_cons_succ]
        refine AnyL.takeW' (i := 1) (d := 274) (v := .pointer (some ⟨b 18, 0, none⟩)) rfl rfl (by kernel_rfl) (by decide) (by kernel_rfl) (by kernel_rfl) (fun _ _ _ h => h) rfl (fun w => by go_simp) hS ?_
        try simp only [Act.put, List.setIfInBounds_toArray, List.set_cons_zero, List.set_cons_succ]
        refine AnyL.takeW' (i := 2) (d := 275) (v := .pointer (some ⟨b 18, 6, none⟩)) rfl rfl (by kernel_rfl) (by decide) (by kernel_rfl) (by kernel_rfl) (fun _ _ _ h => h) rfl (fun w => by go_simp) hS ?_
        try simp only [Act.put, List.setIfInBounds_toArray, List.set_cons_zero, List.set_cons_succ]
        refine AnyL.take' (i := 3) (d := 276) (v := .slice (some ⟨b 6, 0, none⟩) I.m I.m) rfl rfl (by kernel_rfl) (by kernel_rfl) (by kernel_rfl) (by kernel_rfl) (by kernel_rfl) (fun _ _ _ h => h) rfl (fun w hSw => by have hs1 := hSw; go_simp) hS ?_
        try simp only [Act.put, List.setIfInBounds_toArray, List.set_cons_zero, List.set_cons_succ]
        refine AnyL.takeW' (i := 4) (d := 277) (v := .int .i64 k) rfl rfl (by kernel_rfl) (by decide) (by kernel_rfl) (by kernel_rfl) (fun _ _ _ h => h) rfl (fun w => by go_simp) hS ?_
        try simp only [Act.put, List.setIfInBounds_toArray, List.set_cons_zero, List.set_cons_succ]
        refine AnyL.one (i := 5) (by kernel_rfl) rfl rfl (fun K hK => ?_)
        go_simp
        refine (inf_any _).mono ?_
        rintro e w' ⟨rfl, rfl⟩
        refine hK.out _ _ (fun h => sS) ?_
        clear hK K hS
        refine AnyL.one (i := 6) (by kernel_rfl) rfl rfl (fun K hK => ?_)
        go_simp
        refine hK.out _ _ (fun h => sS) ?_
        clear hK K
        refine AnyL.one (i := 7) (by kernel_rfl) rfl rfl (fun K hK => ?_)
        go_simp
        refine hK.out _ _ (fun h => by cases h) ?_
        clear hK K
        refine AnyL.done (by kernel_rfl) ?_
        go_wp2
        have hB' : Bld I b ((w3.setCell ⟨b 6, k, none⟩ (.float .f64 9218868437227405312)).drew) I.nv (upd (upd (cntOf I.nv k 0) 5 (k + 1)) 6 (k + 1)) := (H3.out.1.put_eq 6 (by decide) k (by rfl) _ (hlim)).draws 1
        have hP' : Blk ((w3.setCell ⟨b 6, k, none⟩ (.float .f64 9218868437227405312)).drew) p 30 [.int .i8 (I.us k).w, .int .i8 (I.us k).am, .int .i8 (I.us k).c, .int .i8 (I.us k).eta, .int .i8 (I.us k).lim, .bool (I.us k).cap] := (H3.out.2.other (H3.out.1.apart_ty (k := 6) (by decide) H3.out.2 (by decide)) k _).draws 1
        obtain ⟨w4, hw'⟩ : ∃ w4, w4 = ((w3.setCell ⟨b 6, k, none⟩ (.float .f64 9218868437227405312)).drew) := ⟨_, rfl⟩
        rw [← hw'] at hB' hP' ⊢
        have H4 : Hid (Bld I b w4 I.nv (upd (upd (cntOf I.nv k 0) 5 (k + 1)) 6 (k + 1)) ∧ Blk w4 p 30 [.int .i8 (I.us k).w, .int .i8 (I.us k).am, .int .i8 (I.us k).c, .int .i8 (I.us k).eta, .int .i8 (I.us k).lim, .bool (I.us k).cap]) := ⟨hB', hP'⟩
        clear hw' hP' hB' H3 sS dS fS lS l18 lp xS w3
        have sS : w4.cell? ⟨b 18, 15, none⟩ = some (.slice (some ⟨b 15, 0, none⟩) I.m I.m) := H4.out.1.solv 15
        obtain ⟨xS, dS⟩ := H4.out.1.some (k := 15) (by decide) (show k < I.m from hkn)
        have fS := H4.out.1.fro (k := 15) (by decide) k
        have pS : w4.cell? ⟨p, 2, none⟩ = some (.int .i8 (I.us k).c) := H4.out.2.cell 2
        have lS := H4.out.1.lt (k := 15) (by decide)
        have l18 := H4.out.1.lt (k := 18) (by decide)
        have lp := H4.out.2.lt
        go_big_region
        go_wp2
        have hB' : Bld I b ((w4.setCell ⟨b 15, k, none⟩ (.float .f64 (floatOfInt .f64 (I.us k).c))).drew) I.nv (upd (upd (upd (cntOf I.nv k 0) 5 (k + 1)) 6 (k + 1)) 15 (k + 1)) := (H4.out.1.put_eq 15 (by decide) k (by rfl) _ (rfl)).draws 1
        have hP' : Blk ((w4.setCell ⟨b 15, k, none⟩ (.float .f64 (floatOfInt .f64 (I.us k).c))).drew) p 30 [.int .i8 (I.us k).w, .int .i8 (I.us k).am, .int .i8 (I.us k).c, .int .i8 (I.us k).eta, .int .i8 (I.us k).lim, .bool (I.us k).cap] := (H4.out.2.other (H4.out.1.apart_ty (k := 15) (by decide) H4.out.2 (by decide)) k _).draws 1
        obtain ⟨w5, hw'⟩ : ∃ w5, w5 = ((w4.setCell ⟨b 15, k, none⟩ (.float .f64 (floatOfInt .f64 (I.us k).c))).drew) := ⟨_, rfl⟩
        rw [← hw'] at hB' hP' ⊢
        have H5 : Hid (Bld I b w5 I.nv (upd (upd (upd (cntOf I.nv k 0) 5 (k + 1)) 6 (k + 1)) 15 (k + 1)) ∧ Blk w5 p 30 [.int .i8 (I.us k).w, .int .i8 (I.us k).am, .int .i8 (I.us k).c, .int .i8 (I.us k).eta, .int .i8 (I.us k).lim, .bool (I.us k).cap]) := ⟨hB', hP'⟩
        clear hw' hP' hB' H4 sS dS fS pS lS l18 lp xS w4
        have sS : w5.cell? ⟨b 18, 16, none⟩ = some (.slice (some ⟨b 16, 0, none⟩) I.m I.m) := H5.out.1.solv 16
        obtain ⟨xS, dS⟩ := H5.out.1.some (k := 16) (by decide) (show k < I.m from hkn)
        have fS := H5.out.1.fro (k := 16) (by decide) k
        have pS : w5.cell? ⟨p, 3, none⟩ = some (.int .i8 (I.us k).eta) := H5.out.2.cell 3
        have lS := H5.out.1.lt (k := 16) (by decide)
        have l18 := H5.out.1.lt (k := 18) (by decide)
        have lp := H5.out.2.lt
        go_big_region
        have hB' : Bld I b ((w5.setCell ⟨b 16, k, none⟩ (.float .f64 (floatOfInt .f64 (I.us k).eta))).drew) I.nv (upd (upd (upd (upd (cntOf I.nv k 0) 5 (k + 1)) 6 (k + 1)) 15 (k + 1)) 16 (k + 1)) := (H5.out.1.put_eq 16 (by decide) k (by rfl) _ (rfl)).draws 1
        have hP' : Blk ((w5.setCell ⟨b 16, k, none⟩ (.float .f64 (floatOfInt .f64 (I.us k).eta))).drew) p 30 [.int .i8 (I.us k).w, .int .i8 (I.us k).am, .int .i8 (I.us k).c, .int .i8 (I.us k).eta, .int .i8 (I.us k).lim, .bool (I.us k).cap] := (H5.out.2.other (H5.out.1.apart_ty (k := 16) (by decide) H5.out.2 (by decide)) k _).draws 1
        obtain ⟨w6, hw'⟩ : ∃ w6, w6 = ((w5.setCell ⟨b 16, k, none⟩ (.float .f64 (floatOfInt .f64 (I.us k).eta))).drew) := ⟨_, rfl⟩
        rw [← hw'] at hB' hP' ⊢
        have H6 : Hid (Bld I b w6 I.nv (upd (upd (upd (upd (cntOf I.nv k 0) 5 (k + 1)) 6 (k + 1)) 15 (k + 1)) 16 (k + 1)) ∧ Blk w6 p 30 [.int .i8 (I.us k).w, .int .i8 (I.us k).am, .int .i8 (I.us k).c, .int .i8 (I.us k).eta, .int .i8 (I.us k).lim, .bool (I.us k).cap]) := ⟨hB', hP'⟩
        clear hw' hP' hB' H5 sS dS fS pS lS l18 lp xS w5
        obtain ⟨xS, dS⟩ := H6.out.1.some (k := 17) (by decide) (show k < I.m from hkn)
        have fS := H6.out.1.fro (k := 17) (by decide) k
        have pS : w6.cell? ⟨p, 1, none⟩ = some (.int .i8 (I.us k).am) := H6.out.2.cell 1
        have lS := H6.out.1.lt (k := 17) (by decide)
        have lp := H6.out.2.lt
        go_wp2
        refine ⟨⟨k + 1, by omega, by go_num, ?_⟩, by simp [intOf]; omega⟩
        refine Bld.congr (H6.out.1.put_eq 17 (by decide) k (by rfl) _ (by rfl)) _ ?_
        intro q hq
        simp only [TT, List.mem_cons, List.not_mem_nil, or_false] at hq
        rcases hq with rfl | rfl | rfl | rfl | rfl | rfl | rfl | rfl | rfl | rfl | rfl | rfl <;> rfl
    · obtain rfl : k = I.m := by omega
      go_wp2
      refine mid_intro (by kernel_rfl) ⟨⟨by kernel_rfl, by kernel_rfl, by kernel_rfl, by kernel_rfl, by kernel_rfl, by kernel_rfl, by kernel_rfl, by kernel_rfl, by kernel_rfl⟩, HJ.out⟩
end Go.Proofs.Ybulkbyna

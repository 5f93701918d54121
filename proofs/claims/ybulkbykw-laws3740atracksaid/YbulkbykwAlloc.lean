/- '(*slotStore).alloc', the free list empty: a new node behind the others. '(*slotStore).width'. -/
import Derived.Test.YbulkbykwGrow
import Derived.Test.YbulkbykwRestore2
import Derived.Maps.AppendAt
import Derived.Deep.DeepCutAuto
import Derived.Test.YbulkbykwOrderL
namespace Go.Proofs.Ybulkbykw
open Go.ChangeShapes Go.WideShapes Go.ChangeAt Go.RowKit
set_option linter.unusedVariables false
set_option linter.unusedSimpArgs false

theorem info21 : (Yba.prog.info? 21).map (fun i => (i.zero, i.size, i.bytes)) = some (some (.int .i32 0), 1, 4) := by kernel_rfl

theorem own_extend {w : World} {B e g n cap m : Nat} {ys : List Value} (h : w.ownsRow B e 1 (.slice (some ⟨g, 0, none⟩) n cap) n ys) (hm : n + m ≤ cap) :
    ∃ ys', w.ownsRow B e 1 (.slice (some ⟨g, 0, none⟩) (n + m) cap) (n + m) ys' ∧ ys'.take n = ys := by
  rcases h.2 with ⟨h1, _⟩ | ⟨g', c, cur, hv, hb, hg, h3, h4, h5, h6⟩
  · cases h1
  · cases hv
    refine ⟨cur.toList.take (n + m), ⟨by simp; omega, .inr ⟨g, cap, cur, rfl, hb, hg, hm, h4, h5, by simp⟩⟩, ?_⟩
    rw [List.take_take, Nat.min_eq_left (by omega)]
    simpa using h6

/-- What alloc leaves. -/
structure Alloced (M : Nat) (w w' : World) (f : Nat → Value) (n : Nat → Nat) (xs : Nat → List Value) (f' : Nat → Value) (n' : Nat → Nat) (xs' : Nat → List Value) : Prop where
  ms : MS M w' f' n' xs'
  bel : Below M w w'
  same : ∀ k, k ≠ 29 → k ≠ 30 → k ≠ 32 → f' k = f k ∧ n' k = n k ∧ xs' k = xs k
  refs : n' 30 = n 30 + 1
  born : n' 32 = n 32 + 1
  data : n' 29 = n 29 + 8
  rcells : xs' 30 = xs 30 ++ [.int .i32 1]
  old : (xs' 29).take (n 29) = xs 29

set_option maxRecDepth 100000 in
set_option maxHeartbeats 4000000 in
theorem alloc_any (M : Nat) (w : World) (f : Nat → Value) (n : Nat → Nat) (xs : Nat → List Value) (h : MS M w f n xs) (h31 : f 31 = .slice none 0 0) (h27 : f 27 = .int .i64 8) (b30 : n 30 ≤ 100) (b32 : n 32 ≤ 100) (b29 : n 29 ≤ 1000) :
    Calls Yba.prog 17 #[.pointer (some ⟨M, 25, none⟩)] w fun e w' => e = .returned (.int .i32 (n 30)) ∧ ∃ f' n' xs', Alloced M w w' f n xs f' n' xs' := by
  obtain ⟨i0, hi, hz0, hz1, hz2⟩ := info_parts info21
  obtain ⟨j0, hj, hy0, hy1, hy2⟩ := info_parts info36
  have H : Hid (MS M w f n xs) := h
  have H27 : Hid (f 27 = .int .i64 8) := h27
  have c31 := h.cell 31 (by omega)
  rw [h31] at c31
  obtain ⟨a30, k30, e30, l30, m30, _, _⟩ := h.slice (k := 30) rfl
  have c30 := h.cell 30 (by omega)
  rw [e30] at c30
  have hm : n 30 + 1 ≤ maxLen := by unfold maxLen; omega
  have fz := h.fro
  clear h
  generalize hN : n 30 = N30 at *
  go_enter Yba.func17, Yba.ntmps17
  go_upto_region 8 with fail
  go_cut [] (fun wx => ∃ f' n' xs', MS M wx f' n' xs' ∧ Below M w wx ∧ (∀ k, k ≠ 30 → f' k = f k ∧ n' k = n k ∧ xs' k = xs k) ∧ n' 30 = N30 + 1 ∧ xs' 30 = xs 30 ++ [.int .i32 1])
  case first =>
    go_wp2_with (at_builtin; refine wpList_append_own_at _ rfl (.tmp 47) (.tmp 48) 46 rfl (M + 1) 21 i0 (.int .i32 0) 1 4 Yba.underlying46 hi hz0 hz1 hz2 rfl (by omega) (.slice a30 N30 k30) N30 (xs 30) rfl (by have := (H.out.rows 30 rfl).alloc (.cells #[.int .i32 1] 21); rw [e30, hN] at this; exact this) ⟨w.heap.size, 0, none⟩ 1 1 [.int .i32 1] rfl rfl (one_cell _ _ _ rfl _) (by simp [Value.oneCell']) hm (by omega) (by have := H.out.lt; simp; omega) ?_; intro v1 w1 hown1 hgrow1 _ hat1; obtain ⟨ao1, k1, rfl⟩ := own_shape hown1; rw [← e30] at hgrow1 hat1; have cg := (H.out.alloc _).cells_grown (k := 30) rfl hgrow1; have cz := cg.1 30 (by omega); have fz1 := cg.2; rw [e30] at cz)
    go_meet
    case rel =>
      have hl := H.out.lt
      refine ⟨_, _, _, (H.out.alloc _).append (k := 30) (by omega) rfl hgrow1 hown1 (Nat.le_refl _) hat1, ?_, fun k hk => ⟨upd_other f _ hk, upd_other n _ hk, upd_other xs _ hk⟩, upd_same n 30 _, upd_same xs 30 _⟩
      exact (((Below.refl M w).alloc (by omega) _).trans ((H.out.alloc _).below_grown (k := 30) rfl hgrow1)).setCell (by simp) _
  case rest =>
    clear c31 c30 fz e30 l30 m30 hm
    obtain ⟨f1, n1, xs1, h1, hB1, hs1, hn1, hx1⟩ := hcut
    have wb : ∃ wb, wb = wc := ⟨_, rfl⟩
    obtain ⟨wb, hwb⟩ := wb
    subst hwb
    obtain ⟨a32, k32, e32, l32, m32, _, _⟩ := h1.slice (k := 32) rfl
    have c32 := h1.cell 32 (by omega)
    rw [e32] at c32
    have hm : n1 32 + 1 ≤ maxLen := by rw [(hs1 32 (by omega)).2.1]; unfold maxLen; omega
    have b32' : n1 32 ≤ 100 := by rw [(hs1 32 (by omega)).2.1]; omega
    have fz := h1.fro
    have HS1 : Hid ((∀ k, k ≠ 30 → f1 k = f k ∧ n1 k = n k ∧ xs1 k = xs k) ∧ n1 30 = N30 + 1 ∧ xs1 30 = xs 30 ++ [.int .i32 1]) := ⟨hs1, hn1, hx1⟩
    clear hs1 hn1 hx1 h31 h27
    generalize hN2 : n1 32 = N32 at *
    go_upto_region 9 with fail
    go_cut [] (fun wx => ∃ f' n' xs', MS M wx f' n' xs' ∧ Below M wb wx ∧ (∀ k, k ≠ 32 → f' k = f1 k ∧ n' k = n1 k ∧ xs' k = xs1 k) ∧ n' 32 = N32 + 1)
    case first =>
      go_wp2_with (at_builtin; refine wpList_append_own_at _ rfl (.tmp 56) (.tmp 57) 35 rfl (M + 1) 36 j0 (.int .u64 0) 1 8 Yba.underlying35 hj hy0 hy1 hy2 rfl (by omega) (.slice a32 N32 k32) N32 (xs1 32) rfl (by have := (h1.rows 32 rfl).alloc (.cells #[.int .u64 0] 36); rw [e32, hN2] at this; exact this) ⟨wb.heap.size, 0, none⟩ 1 1 [.int .u64 0] rfl rfl (one_cell _ _ _ rfl _) (by simp [Value.oneCell']) hm (by omega) (by have := h1.lt; simp; omega) ?_; intro v1 w1 hown1 hgrow1 _ hat1; obtain ⟨ao1, k1, rfl⟩ := own_shape hown1; rw [← e32] at hgrow1 hat1; have cg := (h1.alloc _).cells_grown (k := 32) rfl hgrow1; have cz := cg.1 32 (by omega); have fz1 := cg.2; rw [e32] at cz)
      go_meet
      case rel =>
        have hl := h1.lt
        refine ⟨_, _, _, (h1.alloc _).append (k := 32) (by omega) rfl hgrow1 hown1 (Nat.le_refl _) hat1, ?_, fun k hk => ⟨upd_other f1 _ hk, upd_other n1 _ hk, upd_other xs1 _ hk⟩, upd_same n1 32 _⟩
        exact (((Below.refl M wb).alloc (by omega) _).trans ((h1.alloc _).below_grown (k := 32) rfl hgrow1)).setCell (by simp) _
    case rest =>
      clear c32 fz e32 l32 m32 hm
      obtain ⟨f2, n2, xs2, h2, hB2, hs2, hn2⟩ := hcut
      have wd : ∃ wd, wd = wc := ⟨_, rfl⟩
      obtain ⟨wd, hwd⟩ := wd
      subst hwd
      obtain ⟨a29, k29, e29, l29, m29, _, _⟩ := h2.slice (k := 29) rfl
      have s1 := HS1.out.1
      have hN29 : n2 29 = n 29 := (hs2 29 (by omega)).2.1.trans (s1 29 (by omega)).2.1
      have c29 := h2.cell 29 (by omega)
      rw [e29, hN29] at c29
      have c27 := h2.cell 27 (by omega)
      rw [(hs2 27 (by omega)).1, (s1 27 (by omega)).1, H27.out] at c27
      have fz := h2.fro
      have HG : Hid (Calls Yba.prog 19 #[.slice a29 (n 29) k29, .int .i64 8] wd.drew fun e w' => ∃ g cap', n 29 + 8 ≤ cap' ∧ cap' ≤ maxLen ∧ e = .returned (.slice (some ⟨g, 0, none⟩) (n 29) cap') ∧ w'.ownsRow (M + 1) 3 1 (.slice (some ⟨g, 0, none⟩) (n 29) cap') (n 29) (xs2 29) ∧ wd.drew.grownBy w' none ∧ ((Value.slice a29 (n 29) k29).ownBlock = some g ∨ g = wd.drew.heap.size)) :=
        grow_any (M + 1) a29 (n 29) k29 8 (xs2 29) wd.drew (by have := h2.drew.rows 29 rfl; rw [e29, hN29] at this; exact this) (by have := h2.lt; show _ ≤ wd.heap.size; omega) (by omega) (by omega) (by omega)
      have HS : Hid ((∀ k, k ≠ 29 → k ≠ 30 → k ≠ 32 → f2 k = f k ∧ n2 k = n k ∧ xs2 k = xs k) ∧ n2 30 = N30 + 1 ∧ n2 32 = n 32 + 1 ∧ xs2 30 = xs 30 ++ [.int .i32 1] ∧ xs2 29 = xs 29) := by
        refine ⟨fun k h1 h2' h3 => ?_, ?_, ?_, ?_, ?_⟩
        · have x1 := hs2 k h3; have x2 := s1 k h2'
          exact ⟨x1.1.trans x2.1, x1.2.1.trans x2.2.1, x1.2.2.trans x2.2.2⟩
        · rw [(hs2 30 (by omega)).2.1]; exact HS1.out.2.1
        · rw [hn2, ← hN2, (s1 32 (by omega)).2.1]
        · rw [(hs2 30 (by omega)).2.2]; exact HS1.out.2.2
        · rw [(hs2 29 (by omega)).2.2, (s1 29 (by omega)).2.2]
      have HE : Hid (f2 29 = .slice a29 (n2 29) k29 ∧ n2 29 = n 29) := ⟨e29, hN29⟩
      clear s1 hs2 hn2 e29 hN29 HS1 hN2 b32'
      have hN' : Hid (n 30 = N30) := hN
      clear hN
      generalize hN9 : n 29 = N29 at *
      have HN9 : Hid (n 29 = N29) := hN9
      clear hN9
      go_wp2_with fail
      have hwr : IntKind.i64.wrap ((N29 : Int) + 8) = (N29 : Int) + 8 := by rw [IntKind.wrap_i64]; omega
      have b0 : (0 : Int) ≤ (N29 : Int) + 8 := by omega
      have hS : wd.drew.cell? ⟨M, 29, none⟩ = some (.slice a29 N29 k29) ∧ wd.drew.cell? ⟨M, 27, none⟩ = some (.int .i64 8) := ⟨c29, c27⟩
      refine AnyL.region (S := fun w' => w'.cell? ⟨M, 29, none⟩ = some (.slice a29 N29 k29) ∧ w'.cell? ⟨M, 27, none⟩ = some (.int .i64 8)) (L := 23) (by kernel_rfl) ?_
      refine AnyL.takeW (i := 0) (v := .pointer (some ⟨M, 25, none⟩)) rfl (by kernel_rfl) (by decide) (by kernel_rfl) (by kernel_rfl) (fun _ _ _ h => h) rfl (fun w => by go_simp) hS ?_
      try simp only [Act.put, List.setIfInBounds_toArray, List.set_cons_zero, List.set_cons_succ]
      refine AnyL.takeW (i := 1) (v := .pointer (some ⟨M, 25, none⟩)) rfl (by kernel_rfl) (by decide) (by kernel_rfl) (by kernel_rfl) (fun _ _ _ h => h) rfl (fun w => by go_simp) hS ?_
      try simp only [Act.put, List.setIfInBounds_toArray, List.set_cons_zero, List.set_cons_succ]
      refine AnyL.takeW (i := 2) (v := .pointer (some ⟨M, 25, none⟩)) rfl (by kernel_rfl) (by decide) (by kernel_rfl) (by kernel_rfl) (fun _ _ _ h => h) rfl (fun w => by go_simp) hS ?_
      try simp only [Act.put, List.setIfInBounds_toArray, List.set_cons_zero, List.set_cons_succ]
      refine AnyL.takeW (i := 3) (v := .pointer (some ⟨M, 29, none⟩)) rfl (by kernel_rfl) (by decide) (by kernel_rfl) (by kernel_rfl) (fun _ _ _ h => h) rfl (fun w => by go_simp) hS ?_
      try simp only [Act.put, List.setIfInBounds_toArray, List.set_cons_zero, List.set_cons_succ]
      refine AnyL.take (i := 4) (v := .slice a29 N29 k29) rfl (by kernel_rfl) (by kernel_rfl) (by kernel_rfl) (by kernel_rfl) (by kernel_rfl) (fun _ _ _ h => h) rfl (fun w hSw => by obtain ⟨hs1, hs2⟩ := hSw; go_simp) hS ?_
      try simp only [Act.put, List.setIfInBounds_toArray, List.set_cons_zero, List.set_cons_succ]
      refine AnyL.takeW (i := 5) (v := .pointer (some ⟨M, 25, none⟩)) rfl (by kernel_rfl) (by decide) (by kernel_rfl) (by kernel_rfl) (fun _ _ _ h => h) rfl (fun w => by go_simp) hS ?_
      try simp only [Act.put, List.setIfInBounds_toArray, List.set_cons_zero, List.set_cons_succ]
      refine AnyL.takeW (i := 6) (v := .pointer (some ⟨M, 25, none⟩)) rfl (by kernel_rfl) (by decide) (by kernel_rfl) (by kernel_rfl) (fun _ _ _ h => h) rfl (fun w => by go_simp) hS ?_
      try simp only [Act.put, List.setIfInBounds_toArray, List.set_cons_zero, List.set_cons_succ]
      refine AnyL.takeW (i := 7) (v := .pointer (some ⟨M, 27, none⟩)) rfl (by kernel_rfl) (by decide) (by kernel_rfl) (by kernel_rfl) (fun _ _ _ h => h) rfl (fun w => by go_simp) hS ?_
      try simp only [Act.put, List.setIfInBounds_toArray, List.set_cons_zero, List.set_cons_succ]
      refine AnyL.take (i := 8) (v := .int .i64 8) rfl (by kernel_rfl) (by kernel_rfl) (by kernel_rfl) (by kernel_rfl) (by kernel_rfl) (fun _ _ _ h => h) rfl (fun w hSw => by obtain ⟨hs1, hs2⟩ := hSw; go_simp) hS ?_
      try simp only [Act.put, List.setIfInBounds_toArray, List.set_cons_zero, List.set_cons_succ]
      refine AnyL.takeW (i := 10) (v := .pointer (some ⟨M, 25, none⟩)) rfl (by kernel_rfl) (by decide) (by kernel_rfl) (by kernel_rfl) (fun _ _ _ h => h) rfl (fun w => by go_simp) hS ?_
      try simp only [Act.put, List.setIfInBounds_toArray, List.set_cons_zero, List.set_cons_succ]
      refine AnyL.takeW (i := 11) (v := .pointer (some ⟨M, 25, none⟩)) rfl (by kernel_rfl) (by decide) (by kernel_rfl) (by kernel_rfl) (fun _ _ _ h => h) rfl (fun w => by go_simp) hS ?_
      try simp only [Act.put, List.setIfInBounds_toArray, List.set_cons_zero, List.set_cons_succ]
      refine AnyL.takeW (i := 12) (v := .pointer (some ⟨M, 29, none⟩)) rfl (by kernel_rfl) (by decide) (by kernel_rfl) (by kernel_rfl) (fun _ _ _ h => h) rfl (fun w => by go_simp) hS ?_
      try simp only [Act.put, List.setIfInBounds_toArray, List.set_cons_zero, List.set_cons_succ]
      refine AnyL.take (i := 13) (v := .slice a29 N29 k29) rfl (by kernel_rfl) (by kernel_rfl) (by kernel_rfl) (by kernel_rfl) (by kernel_rfl) (fun _ _ _ h => h) rfl (fun w hSw => by obtain ⟨hs1, hs2⟩ := hSw; go_simp) hS ?_
      try simp only [Act.put, List.setIfInBounds_toArray, List.set_cons_zero, List.set_cons_succ]
      refine AnyL.takeW (i := 14) (v := .int .i64 N29) rfl (by kernel_rfl) (by decide) (by kernel_rfl) (by kernel_rfl) (fun _ _ _ h => h) rfl (fun w => by go_simp) hS ?_
      try simp only [Act.put, List.setIfInBounds_toArray, List.set_cons_zero, List.set_cons_succ]
      refine AnyL.takeW (i := 15) (v := .pointer (some ⟨M, 25, none⟩)) rfl (by kernel_rfl) (by decide) (by kernel_rfl) (by kernel_rfl) (fun _ _ _ h => h) rfl (fun w => by go_simp) hS ?_
      try simp only [Act.put, List.setIfInBounds_toArray, List.set_cons_zero, List.set_cons_succ]
      refine AnyL.takeW (i := 16) (v := .pointer (some ⟨M, 25, none⟩)) rfl (by kernel_rfl) (by decide) (by kernel_rfl) (by kernel_rfl) (fun _ _ _ h => h) rfl (fun w => by go_simp) hS ?_
      try simp only [Act.put, List.setIfInBounds_toArray, List.set_cons_zero, List.set_cons_succ]
      refine AnyL.takeW (i := 17) (v := .pointer (some ⟨M, 27, none⟩)) rfl (by kernel_rfl) (by decide) (by kernel_rfl) (by kernel_rfl) (fun _ _ _ h => h) rfl (fun w => by go_simp) hS ?_
      try simp only [Act.put, List.setIfInBounds_toArray, List.set_cons_zero, List.set_cons_succ]
      refine AnyL.take (i := 18) (v := .int .i64 8) rfl (by kernel_rfl) (by kernel_rfl) (by kernel_rfl) (by kernel_rfl) (by kernel_rfl) (fun _ _ _ h => h) rfl (fun w hSw => by obtain ⟨hs1, hs2⟩ := hSw; go_simp) hS ?_
      try simp only [Act.put, List.setIfInBounds_toArray, List.set_cons_zero, List.set_cons_succ]
      refine AnyL.takeW (i := 19) (v := .int .i64 ((N29 : Int) + 8)) rfl (by kernel_rfl) (by decide) (by kernel_rfl) (by kernel_rfl) (fun _ _ _ h => h) rfl (fun w => by go_simp) hS ?_
      try simp only [Act.put, List.setIfInBounds_toArray, List.set_cons_zero, List.set_cons_succ]
      refine AnyL.one (i := 9) (by kernel_rfl) rfl rfl (fun K hK => ?_)
      go_simp
      refine HG.out.mono ?_
      rintro e w3 ⟨g, cap', hg1, hg2, rfl, hown3, hgr3, hat3⟩
      have cg := h2.drew.grow hgr3
      have cz29 := cg.cell 29 (by omega)
      rw [HE.out.1, HE.out.2] at cz29
      have cz27 := cg.cell 27 (by omega)
      rw [(HS.out.1 27 (by omega) (by omega) (by omega)).1, H27.out] at cz27
      have fz3 := cg.fro
      have b1 : (N29 : Int) + 8 ≤ (cap' : Int) := by omega
      have hS3 : w3.cell? ⟨M, 29, none⟩ = some (.slice a29 N29 k29) ∧ w3.cell? ⟨M, 27, none⟩ = some (.int .i64 8) := ⟨cz29, cz27⟩
      refine hK.out _ _ (fun _ => hS3) ?_
      clear hK K
      try simp only [Act.put, List.setIfInBounds_toArray, List.set_cons_zero, List.set_cons_succ]
      have hnat : ((N29 : Int) + 8).toNat = N29 + 8 := by omega
      refine AnyL.takeW (i := 20) (v := .slice (some ⟨g, 0, none⟩) (N29 + 8) cap') rfl (by kernel_rfl) (by decide) (by kernel_rfl) (by kernel_rfl) (fun _ _ _ h => h) rfl (fun w => by go_simp) hS3 ?_
      try simp only [Act.put, List.setIfInBounds_toArray, List.set_cons_zero, List.set_cons_succ]
      refine AnyL.takeW (i := 21) (v := .pointer (some ⟨M, 25, none⟩)) rfl (by kernel_rfl) (by decide) (by kernel_rfl) (by kernel_rfl) (fun _ _ _ h => h) rfl (fun w => by go_simp) hS3 ?_
      try simp only [Act.put, List.setIfInBounds_toArray, List.set_cons_zero, List.set_cons_succ]
      refine AnyL.takeW (i := 22) (v := .pointer (some ⟨M, 29, none⟩)) rfl (by kernel_rfl) (by decide) (by kernel_rfl) (by kernel_rfl) (fun _ _ _ h => h) rfl (fun w => by go_simp) hS3 ?_
      try simp only [Act.put, List.setIfInBounds_toArray, List.set_cons_zero, List.set_cons_succ]
      refine AnyL.one (i := 23) (by kernel_rfl) rfl rfl (fun K hK => ?_)
      go_simp
      refine hK.out _ _ (fun h => by cases h) ?_
      clear hK K
      refine AnyL.done (by kernel_rfl) ?_
      obtain ⟨ys', hown', htk⟩ := own_extend hown3 hg1
      have HX : Hid (w3.ownsRow (M + 1) 3 1 (.slice (some ⟨g, 0, none⟩) (N29 + 8) cap') (N29 + 8) ys' ∧ ys'.take N29 = xs2 29) := ⟨hown', htk⟩
      have HP : Hid (∀ j, isRow j = true → j ≠ 29 → ∀ g', (Value.slice (some ⟨g, 0, none⟩) (N29 + 8) cap').ownBlock = some g' → (f2 j).ownBlock ≠ some g') := by
        intro j hj hne g' e e'
        cases e
        rcases hat3 with ha | ha
        · rw [← HE.out.2, ← HE.out.1] at ha
          exact h2.apart 29 j rfl hj (fun e => hne e.symm) g ha e'
        · have h1 : g < wd.heap.size := (h2.row_lt hj e').2
          have ha' : g = wd.heap.size := ha
          omega
      clear hown' htk hown3 hat3 cz29 cz27 hS hS3 c29 c27 hnat hwr b1 fz fz3
      go_wp2
      go_ret
      refine ⟨rfl, _, _, _, cg.setRow (k := 29) (by omega) rfl HX.out.1 HP.out, ?_, fun k h29 h30 h32 => ?_, ?_, ?_, ?_, ?_, ?_⟩
      · have hl := h2.lt
        have hb3 : Below M wd w3 := (Below.refl M wd).drew.trans ((Below.refl M wd.drew).grown hgr3 (Nat.le_of_lt h2.drew.lt) (fun k h => by cases h))
        exact ((hB1.trans hB2).trans hb3).setCell (by simp) _
      · rw [upd_other _ _ h29, upd_other _ _ h29, upd_other _ _ h29]; exact HS.out.1 k h29 h30 h32
      · rw [upd_other _ _ (by omega), HS.out.2.1, hN'.out]
      · rw [upd_other _ _ (by omega), HS.out.2.2.1]
      · rw [upd_same, HN9.out]
      · rw [upd_other _ _ (by omega), HS.out.2.2.2.1]
      · rw [upd_same, HN9.out, HX.out.2]; exact HS.out.2.2.2.2
end Go.Proofs.Ybulkbykw

import Derived.Test.YbulkbykwUndoParts
import Derived.Deep.DeepCutAuto
import Derived.Deep.CutBlock
import Derived.BigQuiet
import Derived.Deep.QuietTactic
namespace Go.Proofs.Ybulkbykw.undo
open Go.ChangeShapes Go.WideShapes Go.ChangeAt Go.RowKit
set_option linter.unusedVariables false

set_option maxRecDepth 100000 in
set_option maxHeartbeats 2000000 in
theorem walk_in (a0 : Option Addr) (len0 cap0 : Nat) (z0 : List Int) (a1 a2 : Int) (a3 : Option Addr) (len3 cap3 : Nat) (ts : List (Int × Int × Int)) (w : World) (w0 : IsRow .i64 w a0 len0 cap0 z0) (w1 : (Lit.int .u64 a1).wf = true) (w3 : IsSaves w a3 len3 cap3 ts)
    (h0 : len0 ≤ 1024) (h3 : len3 ≤ 1024) :
    Calls Yba.prog 6 #[.slice a0 len0 cap0, .int .u64 a1, .int .i64 a2, .slice a3 len3 cap3] w fun e w' => e = .returned (.bool true) ∧ Below w.heap.size w w' := by
  obtain ⟨i0, hi, hz0, hz1, hz2⟩ := info_parts info66
  obtain ⟨j0, hj, hy0, hy1, hy2⟩ := info_parts info3
  have hw0 : Hid (IsRow .i64 w a0 len0 cap0 z0) := w0
  have hw3 : Hid (IsSaves w a3 len3 cap3 ts) := w3
  have hxl : Hid ((z0.take len0).length = len0) := row_len w0
  clear w0 w3
  have hb2 : j0.bytes * (len0 + 1) ≤ 281474976710656 := by rw [hy2]; omega
  have hb3 : len0 + 1 ≤ maxLen := by unfold maxLen; omega
  obtain ⟨ha0, ha1⟩ := bounds_u64 w1
  go_enter Yba.func6, Yba.ntmps6
  go_upto_if 37 with (first
    | (at_make; refine wpList_make_own _ rfl (.const (.int .i64 0)) (.tmp 30) 23 rfl w.heap.size 3 j0 (.int .i64 0) 1 Yba.underlying23 hj hy0 hy1 _ _ _ (len0 + 1) rfl rfl (by omega) hb2 hb3 (Nat.le_refl _) ?_; intro wa howna hgrowa; have hBa : Hid (Below w.heap.size w wa) := (Below.refl _ _).grown hgrowa (Nat.le_refl _) (fun k h => by cases h))
    | (at_builtin; refine wpList_append_fits_any _ rfl (.tmp 32) (.tmp 33) 23 rfl w.heap.size 3 j0 1 Yba.underlying23 hj hy1 w.heap.size 0 (len0 + 1) _ rfl howna _ len0 _ ((z0.take len0).map (Value.int .i64)) rfl (by simpa using hxl.out) (row_none hw0.out) (row_cells hw0.out hBa.out) (ints_oneCell _ _) (by omega) ?_; intro wb hownb hgrowb; simp only [Nat.zero_add, List.nil_append] at hownb; have hBb : Hid (Below w.heap.size w wb) := hBa.out.grown hgrowb hgrowa.size (fun k hk => by cases hk; exact Nat.le_refl _)))
  clear howna hgrowa hBa hgrowb hw0
  go_cut [9] (fun s wx => ∃ (n : Nat) (xs : List Int), xs.length = n ∧ 0 < n ∧ n ≤ len0 + 1 ∧ s = .slice (some ⟨w.heap.size, 0, none⟩) n (len0 + 1) ∧ wx.ownsRow w.heap.size 3 1 (.slice (some ⟨w.heap.size, 0, none⟩) n (len0 + 1)) n (xs.map (Value.int .i64)) ∧ Below w.heap.size w wx)
  case first =>
    by_cases hl : len0 = 0
    · subst hl
      go_wp2_with (at_builtin; refine wpList_append_fits _ rfl (.tmp 38) (.tmp 39) 23 rfl w.heap.size 3 j0 1 Yba.underlying23 hj hy1 w.heap.size 0 1 _ rfl (hownb.alloc _) ⟨wb.heap.size, 0, none⟩ 1 1 [.int .i64 0] rfl rfl (one_cell _ _ _ rfl _) (by simp [Value.oneCell']) (by omega) ?_; intro wp hownp hgrowp)
      go_meet
      case rel => exact ⟨1, [0], rfl, by omega, by omega, rfl, by simpa using hownp, (hBb.out.alloc hBb.out.size _).grown hgrowp (by have := hBb.out.size; simp; omega) (fun k hk => by cases hk; exact Nat.le_refl _)⟩
    · have e0 : ((len0 : Int) == 0) = false := by simp; omega
      go_wp2
      go_meet
      case rel => exact ⟨len0, z0.take len0, hxl.out, by omega, by omega, rfl, hownb, hBb.out⟩
  case rest =>
    obtain ⟨wb0, hwb0⟩ : ∃ wb0, wb0 = wc := ⟨_, rfl⟩
    subst hwb0
    obtain ⟨n, xs, hxs', hn0, hn1, rfl, hownc, hBc⟩ := hcut
    have hxs : Hid (xs.length = n) := hxs'
    clear hxs' hownb hBb hxl hb2 hb3
    have hb2 : j0.bytes * n ≤ 281474976710656 := by rw [hy2]; omega
    have hb3 : n ≤ maxLen := by unfold maxLen; omega
    have hm0 : 0 ≤ a1 % (n : Int) := Int.emod_nonneg _ (by omega)
    have hm1 : a1 % (n : Int) < (n : Int) := Int.emod_lt_of_pos _ (by omega)
    go_wp2_with (first
      | (at_make; refine wpList_make_full _ rfl (.tmp 42) (.tmp 42) 23 rfl (w.heap.size + 1) 3 j0 (.int .i64 0) 1 Yba.underlying23 hj hy0 hy1 _ _ _ _ n rfl rfl (by omega) (by omega) hb2 hb3 (by have := hownc.lt _ rfl; omega) ?_; intro wd hownd hgrowd)
      | (refine wpList_copy_full _ rfl (.tmp 44) (.tmp 45) 23 rfl (w.heap.size + 1) 3 j0 1 Yba.underlying23 hj hy1 wb0.heap.size n _ rfl hownd ⟨w.heap.size, 0, none⟩ (len0 + 1) (xs.map (Value.int .i64)) rfl (by simpa using hxs.out) (fun j u hu => hgrowd.cell (hownc.cells rfl j u hu) (by simp)) (ints_oneCell _ _) ?_; intro we howne hgrowe; have hU : U1 w we wb0.heap.size n xs := ⟨own_row ((hownc.kept hgrowd (.inr (by simp [Value.ownBlock]))).kept hgrowe (.inr (by have h : w.heap.size < wb0.heap.size := (hownc.lt _ rfl).2; simp [Value.ownBlock]; omega))) hxs.out, own_row howne hxs.out, (hBc.grown hgrowd hBc.size (fun k h => by cases h)).grown hgrowe (Nat.le_trans hBc.size hgrowd.size) (fun k hk => by cases hk; exact hBc.size)⟩))
    obtain ⟨k, hk⟩ : ∃ k : Nat, a1 % (n : Int) = (k : Int) := ⟨_, (Int.toNat_of_nonneg hm0).symm⟩
    rw [hk] at hm1 hm0
    simp only [hk]
    clear hk
    have hkn : k < n := by omega
    have hgl : wb0.heap.size < we.heap.size := (howne.lt _ rfl).2
    have hbs : w.heap.size < wb0.heap.size := (hownc.lt _ rfl).2
    have hfro : we.frozen? ⟨wb0.heap.size, k, none⟩ = false := howne.frozenAt k
    clear hownc hBc hownd hgrowd howne hgrowe hb2 hb3
    refine (set_flat _ _ _ _ k _ _ (xs.getD k 0) _ rfl hkn (by omega) ((hU.alloc _).cp k hkn) ?_).mono ?_
    · rw [World.frozen?_alloc_past _ _ _ hgl]; exact hfro
    rintro e wf ⟨rfl, hwf⟩
    have HF : U1 w (wf.setCell ⟨wb0.heap.size, k, none⟩ (.int .i64 (xs.getD k 0))) wb0.heap.size n xs := by rw [hwf]; exact u1_mk _ (hU.alloc _) hbs hkn
    have hcf : wf.cell? ⟨wb0.heap.size, k, none⟩ = some (.int .i64 a2) := by rw [hwf]; exact World.cell?_setCell_same _ _ _ ((hU.alloc _).cp k hkn)
    have hff : wf.frozen? ⟨wb0.heap.size, k, none⟩ = false := by rw [hwf, World.frozen?_setCell, World.frozen?_alloc_past _ _ _ hgl]; exact hfro
    clear hwf hU hfro
    go_wp2_with fail
    refine (restore_flat _ _ _ _ k _ _ a2 _ rfl hkn (by omega) hcf hff).mono ?_
    rintro e wg ⟨rfl, hwg⟩
    replace HF : U1 w wg wb0.heap.size n xs := by rw [hwg]; simpa using HF
    clear hwg hcf hff
    go_wp2
    go_loopw [69] (fun t wr => ∃ j : Nat, j ≤ n ∧ t = .int .i64 j ∧ U1 w wr wb0.heap.size n xs) (fun t _ => n - (intOf t).toNat)
    case atStart => exact ⟨0, Nat.zero_le _, rfl, HF⟩
    case round =>
      clear HF
      obtain ⟨j, hj', rfl, F⟩ := hrel
      by_cases hjn : j < n
      · have n0 := F.orig j hjn
        have r0 := F.cp j hjn
        have b1 : (j : Int) < (n : Int) := by omega
        have b0 : (0 : Int) ≤ (j : Int) := by omega
        generalize xs.getD j 0 = t at *
        go_wp2
        go_quiet (fail)
        go_wp2
        go_roundw
        case rel => exact ⟨j + 1, by omega, by go_num, F.draws _⟩
        case measure => simp [intOf]; omega
      · have hBr := F.bel
        obtain ⟨wr1, hwr1⟩ : ∃ wr1, wr1 = wr := ⟨_, rfl⟩
        subst hwr1
        clear F
        have hs3 : Hid (IsSaves wr1 a3 len3 cap3 ts) := hw3.out.below hBr
        have hb2 : i0.bytes * len3 ≤ 281474976710656 := by rw [hz2]; omega
        have hb3 : len3 ≤ maxLen := by unfold maxLen; omega
        clear hw3
        go_wp2_with (first
          | (go_at_call 11; refine (noted_any a3 len3 cap3 ts _ hs3.out h3).mono ?_; rintro e wn ⟨rfl, hownn, hBn⟩)
          | (at_make; refine wpList_make_full _ rfl (.tmp 85) (.tmp 85) 45 rfl (wr1.heap.size + 1) 66 i0 _ 3 Yba.underlying45 hi hz0 hz1 _ _ _ _ len3 rfl rfl (by omega) (by omega) hb2 hb3 (by have := hownn.lt _ rfl; omega) ?_; intro wo howno hgrowo)
          | (refine wpList_copy_full _ rfl (.tmp 87) (.tmp 88) 45 rfl (wr1.heap.size + 1) 66 i0 3 Yba.underlying45 hi hz1 wn.heap.size len3 _ rfl howno ⟨wr1.heap.size, 0, none⟩ (len3 + 1) (tcs ts) rfl (by rw [tcs_length, hs3.out.size]) (fun j u hu => hgrowo.cell (hownn.cells rfl j u hu) (by simp)) (tcs_one _) ?_; intro wp hownp hgrowp; have hS1 : S1 wr1 wp len3 (len3 + 1) wn.heap.size ts := ⟨(hownn.kept hgrowo (.inr (by simp [Value.ownBlock]))).kept hgrowp (.inr (by have h : wr1.heap.size < wn.heap.size := (hownn.lt _ rfl).2; simp [Value.ownBlock]; omega)), hownp, (hBn.grown hgrowo hBn.size (fun k h => by cases h)).grown hgrowp (Nat.le_trans hBn.size hgrowo.size) (fun k hk => by cases hk; exact hBn.size)⟩))
        have hl1 := hS1.lt
        clear hownn hBn howno hgrowo hownp hgrowp
        refine (set_shared wp.heap.size wr1.heap.size len3 (len3 + 1) wr1.heap.size ts _ _ none 0 _ (by omega) (by omega) (by simp) (by go_simp) (by go_simp) (hS1.alloc _).ns).mono ?_
        rintro e wq ⟨rfl, wz, hownz, ⟨oz, hgz⟩, hwq⟩
        have HF : U2 w wr1 (wq.setCell ⟨wp.heap.size, 3, none⟩ (.slice (some ⟨wr1.heap.size, 0, none⟩) len3 (len3 + 1))) len3 (len3 + 1) wn.heap.size wp.heap.size ts := by
          rw [hwq]; exact u2_mk hBr hs3.out.size hS1 rfl rfl hownz hgz _
        obtain ⟨p3, p4, p5⟩ : wq.cell? ⟨wp.heap.size, 3, none⟩ = some (.slice (some ⟨wr1.heap.size, 0, none⟩) (len3 + 1) (len3 + 1)) ∧ wq.frozen? ⟨wp.heap.size, 3, none⟩ = false ∧ wq.cell? ⟨wr1.heap.size, len3 * 3 + 2, none⟩ = some (.int .i32 (-1)) := by
          rw [hwq]; exact u2_pre hs3.out.size hS1 rfl hownz hgz _
        clear hwq hownz hgz hS1
        go_wp2_with fail
        refine (restore_none none 0 wp.heap.size wr1.heap.size len3 (len3 + 1) _ _ _ (by omega) (by omega) p3 p4 p5).mono ?_
        rintro e wy ⟨rfl, hwy⟩
        replace HF : U2 w wr1 wy len3 (len3 + 1) wn.heap.size wp.heap.size ts := by rw [hwy]; exact HF
        clear hwy p3 p4 p5
        have f3 := HF.c3
        have f4 := HF.c4
        go_wp2
        clear f3 f4
        go_loopw [119] (fun t wr => ∃ j : Nat, j ≤ len3 ∧ t = .int .i64 j ∧ U2 w wr1 wr len3 (len3 + 1) wn.heap.size wp.heap.size ts) (fun t _ => len3 - (intOf t).toNat)
        case atStart => exact ⟨0, Nat.zero_le _, rfl, HF⟩
        case round =>
          clear HF
          obtain ⟨i, hi', rfl, F⟩ := hrel
          have f3 := F.c3
          by_cases hil : i < len3
          · obtain ⟨n0, n1, n2⟩ := F.ns i hil
            obtain ⟨r0, r1, r2⟩ := F.ref i hil
            generalize ts.getD i (0, 0, 0) = t at *
            obtain ⟨t0, t1, t2⟩ := t
            simp only at n0 n1 n2 r0 r1 r2
            have b1 : (i : Int) < (len3 : Int) := by omega
            have b0 : (0 : Int) ≤ (i : Int) := by omega
            go_wp2
            go_quiet (fail)
            go_wp2
            go_roundw
            case rel => exact ⟨i + 1, by omega, by go_num, F.draws _⟩
            case measure => simp [intOf]; omega
          · go_wp2
            go_ret
            exact ⟨rfl, F.bel⟩
end Go.Proofs.Ybulkbykw.undo

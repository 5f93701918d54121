import Derived.Test.YbulkbykwSharedParts
import Derived.Deep.DeepCutAuto
import Derived.Deep.CutBlock
import Derived.BigQuiet
import Derived.Deep.QuietTactic
namespace Go.Proofs.Ybulkbykw.shared
open Go.ChangeShapes Go.WideShapes Go.ChangeAt Go.RowKit
set_option linter.unusedVariables false

set_option maxRecDepth 100000 in
set_option maxHeartbeats 2000000 in
theorem walk_in (a0 : Option Addr) (len0 cap0 : Nat) (ts : List (Int × Int × Int)) (a1 : Option Addr) (len1 cap1 : Nat) (z1 : List Int) (a2 a3 : Int) (a4 : Bool) (w : World) (w0 : IsSaves w a0 len0 cap0 ts) (w1 : IsRow .i32 w a1 len1 cap1 z1)
    (h0 : len0 ≤ 1024) (h1 : len1 ≤ 1024) :
    Calls Yba.prog 5 #[.slice a0 len0 cap0, .slice a1 len1 cap1, .int .i64 a2, .int .i64 a3, .bool a4] w fun e w' => e = .returned (.bool true) ∧ Below w.heap.size w w' := by
  obtain ⟨i0, hi, hz0, hz1, hz2⟩ := info_parts info66
  obtain ⟨j0, hj, hy0, hy1, hy2⟩ := info_parts info44
  have hw0 : Hid (IsSaves w a0 len0 cap0 ts) := w0
  have hw1 : Hid (IsRow .i32 w a1 len1 cap1 z1) := w1
  clear w0 w1
  go_enter Yba.func5, Yba.ntmps5
  go_upto_if 34 with (go_at_call 11; refine (noted_any a0 len0 cap0 ts _ hw0.out h0).mono ?_; rintro e wa ⟨rfl, howna, hBa⟩)
  go_cut [11] (fun s wx => ∃ (m : Nat) (ts' : List (Int × Int × Int)), ts'.length = m + 1 ∧ m ≤ len0 ∧ s = .slice (some ⟨w.heap.size, 0, none⟩) (m + 1) (len0 + 1) ∧ wx.ownsRow w.heap.size 66 3 (.slice (some ⟨w.heap.size, 0, none⟩) (m + 1) (len0 + 1)) (m + 1) (tcs ts') ∧ Below w.heap.size w wx)
  case first =>
    by_cases hl : len0 = 0
    · subst hl
      clear hw0 hw1
      go_wp2_with (at_builtin; refine wpList_append_fits _ rfl (.tmp 35) (.tmp 41) 45 rfl w.heap.size 66 i0 3 Yba.underlying45 hi hz1 w.heap.size 0 1 _ rfl (howna.alloc _) ⟨wa.heap.size, 0, none⟩ 1 1 (tc (a2, a3, wrap32 a3)) rfl rfl (three_cells _ (a2, a3, wrap32 a3) _ rfl _) (tc_one _) (by omega) ?_; intro wb hownb hgrowb)
      go_meet
      case rel =>
        refine ⟨0, ts ++ [(a2, a3, wrap32 a3)], ?_, by omega, rfl, ?_, (hBa.alloc hBa.size _).grown hgrowb (by have := hBa.size; simp; omega) (fun k hk => by cases hk; exact Nat.le_refl _)⟩
        · have := howna.1; rw [tcs_length] at this; rw [List.length_append]; simp only [List.length_cons, List.length_nil]; omega
        · rw [tcs_snoc]; exact hownb
    · obtain ⟨m, rfl⟩ : ∃ m, len0 = m + 1 := ⟨len0 - 1, by omega⟩
      have hsz : Hid (ts.length = m + 1) := hw0.out.size
      clear hw0 hw1
      go_wp2
      go_meet
      case rel => exact ⟨m, ts, hsz.out, by omega, rfl, howna, hBa⟩
  case rest =>
    obtain ⟨wb0, hwb0⟩ : ∃ wb0, wb0 = wc := ⟨_, rfl⟩
    subst hwb0
    obtain ⟨m, ts', hts', hm, rfl, hownb, hBb⟩ := hcut
    have hts : Hid (ts'.length = m + 1) := hts'
    clear hts' howna hBa hw0
    have hb2 : i0.bytes * (m + 1) ≤ 281474976710656 := by rw [hz2]; omega
    have hb3 : m + 1 ≤ maxLen := by unfold maxLen; omega
    have hb2' : j0.bytes * (len1 + 1) ≤ 281474976710656 := by rw [hy2]; omega
    have hb3' : len1 + 1 ≤ maxLen := by unfold maxLen; omega
    have hxl : Hid ((z1.take len1).length = len1) := row_len hw1.out
    go_wp2_with (first
      | (at_make; refine wpList_make_full _ rfl (.tmp 44) (.tmp 44) 45 rfl (w.heap.size + 1) 66 i0 _ 3 Yba.underlying45 hi hz0 hz1 _ _ _ _ (m + 1) rfl rfl (by omega) (by omega) hb2 hb3 (by have := hownb.lt _ rfl; omega) ?_; intro wd hownd hgrowd)
      | (refine wpList_copy_full _ rfl (.tmp 46) (.tmp 47) 45 rfl (w.heap.size + 1) 66 i0 3 Yba.underlying45 hi hz1 wb0.heap.size (m + 1) _ rfl hownd ⟨w.heap.size, 0, none⟩ (len0 + 1) (tcs ts') rfl (by rw [tcs_length, hts.out]) (fun j u hu => hgrowd.cell (hownb.cells rfl j u hu) (by simp)) (tcs_one _) ?_; intro we howne hgrowe; have hS1 : S1 w we (m + 1) (len0 + 1) wb0.heap.size ts' := ⟨(hownb.kept hgrowd (.inr (by simp [Value.ownBlock]))).kept hgrowe (.inr (by have h : w.heap.size < wb0.heap.size := (hownb.lt _ rfl).2; simp [Value.ownBlock]; omega)), howne, (hBb.grown hgrowd hBb.size (fun k h => by cases h)).grown hgrowe (Nat.le_trans hBb.size hgrowd.size) (fun k hk => by cases hk; exact hBb.size)⟩)
      | (at_make; refine wpList_make_own _ rfl (.const (.int .i64 0)) (.tmp 51) 38 rfl (wb0.heap.size + 1) 44 j0 _ 1 Yba.underlying38 hj hy0 hy1 _ _ _ (len1 + 1) rfl rfl (by omega) hb2' hb3' (by have := hS1.lt; omega) ?_; intro wf hownf hgrowf; have hS1f := hS1.grown hgrowf (fun k hk => by cases hk)))
    clear hownb hBb hownd hgrowd howne hgrowe hb2 hb3 hS1
    have hgu : wb0.heap.size < we.heap.size ∧ we.heap.size < wf.heap.size := by have h1 := hownf.lt _ rfl; exact ⟨h1.1, h1.2⟩
    have hgw0 : w.heap.size < wb0.heap.size := hS1f.lt.1
    go_loopw [13, 55] (fun s i wr => ∃ k : Nat, k ≤ len1 ∧ i = .int .i64 k ∧ s = .slice (some ⟨we.heap.size, 0, none⟩) k (len1 + 1) ∧ wr.ownsRow (wb0.heap.size + 1) 44 1 (.slice (some ⟨we.heap.size, 0, none⟩) k (len1 + 1)) k (((z1.take len1).take k).map (Value.int .i32)) ∧ S1 w wr (m + 1) (len0 + 1) wb0.heap.size ts') (fun _ i _ => len1 - (intOf i).toNat)
    case atStart => exact ⟨0, Nat.zero_le _, rfl, rfl, by simpa using hownf, hS1f⟩
    case round =>
      obtain ⟨k, hk, rfl, rfl, hown, hS⟩ := hrel
      clear hownf hgrowf hS1f
      by_cases hkl : k < len1
      · obtain ⟨b, off, rfl, hbl, hcs⟩ := row_at hw1.out hkl
        have c0 := hcs k hkl
        rw [← hS.bel.cell (p := ⟨b, _, none⟩) hbl] at c0
        clear hcs
        have HT : Hid (((z1.take len1).take k).map (Value.int .i32) ++ [.int .i32 ((z1.take len1).getD k 0)] = ((z1.take len1).take (k + 1)).map (Value.int .i32)) := take_snoc _ k .i32 (by have := hxl.out; omega)
        clear hw1
        generalize (z1.take len1).getD k 0 = t at *
        go_wp2_with (at_builtin; refine wpList_append_fits _ rfl (.tmp 59) (.tmp 61) 38 rfl (wb0.heap.size + 1) 44 j0 1 Yba.underlying38 hj hy1 we.heap.size k (len1 + 1) _ rfl (hown.alloc _) ⟨wr.heap.size, 0, none⟩ 1 1 [.int .i32 t] rfl rfl (one_cell _ _ _ rfl _) (by simp [Value.oneCell']) (by omega) ?_; intro wb hownb hgrowb)
        rw [HT.out] at hownb
        go_roundw
        case rel => exact ⟨k + 1, by omega, by go_num, rfl, hownb, (hS.alloc _).grown hgrowb (fun k hk => by cases hk; omega)⟩
        case measure => simp [intOf]; omega
      · obtain rfl : k = len1 := by omega
        obtain ⟨wr1, hwr1⟩ : ∃ wr1, wr1 = wr := ⟨_, rfl⟩
        subst hwr1
        rw [List.take_take, Nat.min_self] at hown
        have hlu : Hid (Vers wr1 (wb0.heap.size + 1) we.heap.size (z1.take k) (k + 1)) := by unfold Vers Hid; rw [hxl.out]; exact hown
        have hwr : we.heap.size < wr1.heap.size := hlu.out.lt.2
        obtain ⟨v, hv⟩ : ∃ v, v = (ts'.getD m (0, 0, 0)).2.2 := ⟨_, rfl⟩
        have hv' : Hid (v = (ts'.getD m (0, 0, 0)).2.2) := hv
        clear hv hw1
        go_upto_if 79 with (first
          | (at_make; refine wpList_make_own _ rfl (.const (.int .i64 0)) (.tmp 66) 38 rfl (we.heap.size + 1) 44 j0 _ 1 Yba.underlying38 hj hy0 hy1 _ _ _ (k + 1) rfl rfl (by omega) hb2' hb3' (by omega) ?_; intro wg howng hgrowg)
          | (at_builtin; refine wpList_append_fits _ rfl (.tmp 68) (.tmp 69) 38 rfl (we.heap.size + 1) 44 j0 1 Yba.underlying38 hj hy1 wr1.heap.size 0 (k + 1) [] rfl howng ⟨we.heap.size, 0, none⟩ k (k + 1) ((z1.take k).map (Value.int .i32)) rfl (by simpa using hxl.out) (fun j u hu => hgrowg.cell (hown.cells rfl j u hu) (by simp)) (ints_oneCell _ _) (by omega) ?_; intro wh hownh hgrowh; simp only [Nat.zero_add, List.nil_append] at hownh; have hS2 : S2 w wh (m + 1) (len0 + 1) wb0.heap.size ts' we.heap.size wr1.heap.size (k + 1) (z1.take k) (z1.take k) := ⟨(hS.grown hgrowg (fun k hk => by cases hk)).grown hgrowh (fun k hk => by cases hk; omega), (hlu.out.grown hgrowg (by simp)).grown hgrowh (by simp; omega), by unfold Vers; rw [hxl.out]; exact hownh⟩; have hcm : wh.cell? ⟨wb0.heap.size, m * 3 + 2, none⟩ = some (.int .i32 v) := by rw [hv'.out]; exact (own_tcs hS2.s1.ref hts.out m (by omega)).2.2))
        clear howng hgrowg hown hlu hcm hS
        go_cut [16] (fun s wx => s = .slice (some ⟨wr1.heap.size, 0, none⟩) (z1.take k ++ und v).length (k + 1) ∧ S2 w wx (m + 1) (len0 + 1) wb0.heap.size ts' we.heap.size wr1.heap.size (k + 1) (z1.take k) (z1.take k ++ und v))
        case first =>
          by_cases hv1 : v = -1
          · have hb : (v != -1) = false := by simp [hv1]
            have hvh : Hid (z1.take k ++ und v = z1.take k) := by unfold Hid; simp [und, hv1]
            clear hv1
            go_wp2
            go_meet
            case rel => rw [hvh.out]; exact ⟨by rw [hxl.out], hS2⟩
          · have hb : (v != -1) = true := by simpa using hv1
            have hvh : Hid (z1.take k ++ und v = z1.take k ++ [v]) := by unfold Hid; simp [und, hv1]
            clear hv1
            go_wp2_with (at_builtin; refine wpList_append_fits _ rfl (.tmp 80) (.tmp 82) 38 rfl (we.heap.size + 1) 44 j0 1 Yba.underlying38 hj hy1 wr1.heap.size k (k + 1) _ rfl (hownh.alloc _) ⟨wh.heap.size, 0, none⟩ 1 1 [.int .i32 v] rfl rfl (one_cell _ _ _ rfl _) (by simp [Value.oneCell']) (by omega) ?_; intro wi howni hgrowi)
            go_meet
            case rel =>
              have el : (z1.take k ++ [v]).length = k + 1 := by rw [List.length_append, hxl.out]; rfl
              rw [hvh.out, el]
              refine ⟨rfl, (hS2.s1.alloc _).grown hgrowi (fun k hk => by cases hk; omega), (hS2.u.alloc _).grown hgrowi (by simp; omega), ?_⟩
              unfold Vers
              rw [el, List.map_append]
              exact howni
        case rest =>
          obtain ⟨wj, hwj⟩ : ∃ wj, wj = wc := ⟨_, rfl⟩
          subst hwj
          obtain ⟨rfl, hS2'⟩ := hcut
          clear hS2 hownh hgrowh
          have hwl : Hid ((z1.take k ++ und v).length ≤ k + 1) := by
            unfold Hid und; rw [List.length_append, hxl.out]; split <;> simp
          go_upto_if 84 with fail
          go_cut [18] (fun s wx => ∃ fo fc, s = .slice fo 0 fc ∧ S2 w wx (m + 1) (len0 + 1) wb0.heap.size ts' we.heap.size wr1.heap.size (k + 1) (z1.take k) (z1.take k ++ und v))
          case first =>
            cases a4 with
            | false =>
              go_wp2
              go_meet
              case rel => exact ⟨_, _, rfl, hS2'⟩
            | true =>
              go_wp2
              go_meet
              case rel => exact ⟨_, _, rfl, hS2'.alloc _⟩
          case rest =>
            obtain ⟨wk, hwk⟩ : ∃ wk, wk = wc := ⟨_, rfl⟩
            subst hwk
            obtain ⟨fo, fc, rfl, hS⟩ := hcut
            clear hS2'
            have hl1 := hS.s1.lt
            have hl2 := hS.u.lt
            have hl3 := hS.want.lt
            go_wp2_with fail
            refine (restore_shared fo fc wk.heap.size w.heap.size m (len0 + 1) we.heap.size k (k + 1) (wb0.heap.size + 1) (z1.take k) a2 a3 v _ (by omega) (by omega) (by omega) hxl.out (by omega) (by simp) (by simp; omega) (by omega) ?_ ?_ ?_ ?_ ?_ ?_).mono ?_
            · go_simp
            · go_simp
            · rw [World.cell?_alloc_lt _ _ _ (by simp; omega), hv'.out]; exact (own_tcs hS.s1.ns hts.out m (by omega)).2.2
            · go_simp
            · go_simp
            · have h2 := hS.u
              unfold Vers at h2
              rw [hxl.out] at h2
              exact h2.alloc _
            rintro e wl ⟨rfl, R⟩
            have F := s3_of hts.out hS rfl _ R
            clear R hS
            obtain ⟨ws, hws⟩ : ∃ ws, ws = z1.take k ++ und v := ⟨_, rfl⟩
            rw [← hws] at F hwl
            simp only [← hws]
            clear hws hv' hxl
            have hwl' : ws.length ≤ k + 1 := hwl.out
            have f3 := F.c3
            have f4 := F.c4
            go_wp2
            clear f3 f4
            go_loopw [109] (fun t wr1' => ∃ j : Nat, j ≤ m ∧ t = .int .i64 j ∧ S3 w wr1' m (len0 + 1) wb0.heap.size wk.heap.size ts' we.heap.size wr1.heap.size (k + 1) ws) (fun t _ => m - (intOf t).toNat)
            case atStart => exact ⟨0, Nat.zero_le _, rfl, F⟩
            case round =>
              clear F
              obtain ⟨j, hj, rfl, F⟩ := hrel
              have f3 := F.c3
              by_cases hjm : j < m
              · obtain ⟨n0, n1, n2⟩ := F.ns j (by omega)
                obtain ⟨r0, r1, r2⟩ := F.ref j (by omega)
                generalize ts'.getD j (0, 0, 0) = t at *
                obtain ⟨t0, t1, t2⟩ := t
                simp only at n0 n1 n2 r0 r1 r2
                have b1 : (j : Int) < (m : Int) := by omega
                have b2 : (j : Int) < (m : Int) + 1 := by omega
                have b0 : (0 : Int) ≤ (j : Int) := by omega
                go_wp2
                go_quiet (fail)
                go_wp2
                go_roundw
                case rel => exact ⟨j + 1, by omega, by go_num, F.draws _⟩
                case measure => simp [intOf]; omega
              · have f4 := F.c4
                go_wp2
                clear f3 f4
                go_loopw [135] (fun t wr1' => ∃ j : Nat, j ≤ ws.length ∧ t = .int .i64 j ∧ S3 w wr1' m (len0 + 1) wb0.heap.size wk.heap.size ts' we.heap.size wr1.heap.size (k + 1) ws) (fun t _ => ws.length - (intOf t).toNat)
                case atStart => exact ⟨0, Nat.zero_le _, rfl, F⟩
                case round =>
                  clear F
                  obtain ⟨i, hi, rfl, F⟩ := hrel
                  have f4 := F.c4
                  by_cases hil : i < ws.length
                  · have n0 := F.u i hil
                    have r0 := F.want i hil
                    have b1 : (i : Int) < (ws.length : Int) := by omega
                    have b0 : (0 : Int) ≤ (i : Int) := by omega
                    generalize ws.getD i 0 = t at *
                    go_wp2
                    go_quiet (fail)
                    go_wp2
                    go_roundw
                    case rel => exact ⟨i + 1, by omega, by go_num, F.draws _⟩
                    case measure => simp [intOf]; omega
                  · go_wp2
                    go_ret
                    exact ⟨rfl, F.bel⟩
end Go.Proofs.Ybulkbykw.shared

/- '(*slotStore).reset(N)', 256 < N <= 2048: the walk. -/
import Derived.Test.YbulkbykwStoreParts
namespace Go.Proofs.Ybulkbykw
open Go.ChangeShapes Go.WideShapes Go.ChangeAt Go.RowKit
set_option linter.unusedVariables false

set_option maxRecDepth 100000 in
set_option maxHeartbeats 4000000 in
theorem store_any (M : Nat) (w : World) (f : Nat → Value) (n : Nat → Nat) (xs : Nat → List Value) (N : Int) (h : MS M w f n xs) (e31 : f 31 = .slice none 0 0) (e34 : f 34 = .slice none 0 0) (e35 : f 35 = .slice none 0 0) (hN : 256 < N) (hN' : N ≤ 2048) :
    Calls Yba.prog 16 #[.pointer (some ⟨M, 25, none⟩), .int .i64 N] w fun e w' => ∃ (d : Nat) (top : Int) (f' : Nat → Value) (n' : Nat → Nat) (xs' : Nat → List Value), 1 ≤ d ∧ d ≤ 3 ∧ e = .returned (.int .i32 d) ∧ RS M w w' f n xs N d top (d + 1) f' n' xs' ∧ (∀ j, j < 8 → (xs' 29)[j]? = some (.int .i64 (-1))) ∧ ∀ j, 1 ≤ j → j ≤ d → (xs' 29)[j * 8]? = some (.int .i64 ((j : Int) - 1)) := by
  obtain ⟨a29, k29, e29, l29, m29, _, _⟩ := h.slice (k := 29) rfl
  obtain ⟨a30, k30, e30, l30, m30, _, _⟩ := h.slice (k := 30) rfl
  obtain ⟨a32, k32, e32, l32, m32, _, _⟩ := h.slice (k := 32) rfl
  have HD : Hid (∃ f1 n1 xs1, Hd M w ((((((((((w.setCell ⟨M, 29, none⟩ (.slice a29 0 k29)).setCell ⟨M, 30, none⟩ (.slice a30 0 k30)).setCell ⟨M, 31, none⟩ (.slice none 0 0)).setCell ⟨M, 32, none⟩ (.slice a32 0 k32)).setCell ⟨M, 34, none⟩ (.slice none 0 0)).setCell ⟨M, 35, none⟩ (.slice none 0 0)).setCell ⟨M, 25, none⟩ (.int .i64 N)).setCell ⟨M, 26, none⟩ (.int .i64 0)).setCell ⟨M, 27, none⟩ (.int .i64 N)).setCell ⟨M, 28, none⟩ (.int .i64 N)).drew.drew f n xs N f1 n1 xs1) := hd_mk h e29 e30 e32
  have c29 := h.cell 29 (by omega); rw [e29] at c29
  have c30 := h.cell 30 (by omega); rw [e30] at c30
  have c31 := h.cell 31 (by omega); rw [e31] at c31
  have c32 := h.cell 32 (by omega); rw [e32] at c32
  have c34 := h.cell 34 (by omega); rw [e34] at c34
  have c35 := h.cell 35 (by omega); rw [e35] at c35
  have c25 := h.cell 25 (by omega)
  have c26 := h.cell 26 (by omega)
  have c27 := h.cell 27 (by omega)
  have c28 := h.cell 28 (by omega)
  have fz := h.fro
  clear h e29 e30 e32 e31 e34 e35 m29 m30 m32
  generalize n 29 = n29 at *
  generalize n 30 = n30 at *
  generalize n 32 = n32 at *
  go_enter Yba.func16, Yba.ntmps16
  go_wp2_with fail
  go_big_region
  go_wp2_with fail
  go_big_region
  go_upto_region 3 with fail
  go_cut [] (fun wx => ∃ f1 n1 xs1, Hd M w wx f n xs N f1 n1 xs1)
  case first =>
    go_wp2
    go_meet
    case rel => exact HD.out
  case rest =>
    clear HD c29 c30 c31 c32 c34 c35 c25 c26 c27 c28 fz l29 l30 l32
    obtain ⟨f1, n1, xs1, h1⟩ := hcut
    obtain ⟨wb, hwb⟩ : ∃ wb, wb = wc := ⟨_, rfl⟩
    subst hwb
    go_upto_if 77 with fail
    go_cut [5, 6] (fun _ _ wx => ∃ (d : Nat) (top : Int) (f' : Nat → Value) (n' : Nat → Nat) (xs' : Nat → List Value), 2 ≤ d ∧ d ≤ 3 ∧ 1 ≤ top ∧ top ≤ 8 ∧ RS M w wx f n xs N d top 0 f' n' xs')
    case first =>
      have c26 := h1.ms.cell 26 (by omega); rw [h1.e26] at c26
      have c27 := h1.ms.cell 27 (by omega); rw [h1.e27] at c27
      have c28 := h1.ms.cell 28 (by omega); rw [h1.e28] at c28
      have fz := h1.ms.fro
      by_cases h512 : N ≤ 512
      · have ht1 : 1 ≤ (N + 64 - 1) / 64 := by omega
        have ht8 : (N + 64 - 1) / 64 ≤ 8 := by omega
        have HT : Hid (1 ≤ (N + 64 - 1) / 64 ∧ (N + 64 - 1) / 64 ≤ 8) := ⟨ht1, ht8⟩
        clear ht1 ht8
        go_wp2
        go_rounds 3
        go_meet
        case rel =>
          obtain ⟨f2, n2, xs2, R⟩ := rs_if2 h1 (.int .i64 1) 2 ((N + 64 - 1) / 64)
          exact ⟨2, _, f2, n2, xs2, by omega, by omega, HT.out.1, HT.out.2, R⟩
      · have ht1 : 1 ≤ (N + 512 - 1) / 512 := by omega
        have ht8 : (N + 512 - 1) / 512 ≤ 8 := by omega
        have HT : Hid (1 ≤ (N + 512 - 1) / 512 ∧ (N + 512 - 1) / 512 ≤ 8) := ⟨ht1, ht8⟩
        clear ht1 ht8
        have h512' : 512 < N := by omega
        have q1 : (((wb.setCell ⟨M, 27, none⟩ (.int .i64 8)).setCell ⟨M, 26, none⟩ (.int .i64 1)).setCell ⟨M, 26, none⟩ (.int .i64 2)).cell? ⟨M, 26, none⟩ = some (.int .i64 2) := World.cell?_setCell_same _ _ _ (World.cell?_setCell_same _ _ _ (u := .int .i64 0) (by rw [World.cell?_setCell_other _ _ _ _ (by simp)]; exact c26))
        go_wp2
        go_rounds 4
        go_meet
        case rel =>
          obtain ⟨f2, n2, xs2, R⟩ := rs_if3 h1 (.int .i64 1) (.int .i64 2) 3 ((N + 512 - 1) / 512)
          exact ⟨3, _, f2, n2, xs2, by omega, by omega, HT.out.1, HT.out.2, R⟩
    case rest =>
      clear h1
      obtain ⟨d, top, f2, n2, xs2, hd2, hd3, ht1, ht8, R0⟩ := hcut
      have hA := alloc_any M wc f2 n2 xs2 R0.ms R0.e31 R0.e27 (by rw [R0.n30]; omega) (by rw [R0.n32]; omega) (by rw [R0.n29]; omega)
      rw [R0.n30] at hA
      have HA : Hid (Calls Yba.prog 17 #[.pointer (some ⟨M, 25, none⟩)] wc fun e w' => e = .returned (.int .i32 ((0 : Nat) : Int)) ∧ ∃ f' n' xs', Alloced M wc w' f2 n2 xs2 f' n' xs') := hA
      clear hA
      go_wp2_with fail
      refine HA.out.mono ?_
      rintro e wd ⟨rfl, f3, n3, xs3, A⟩
      have R1 := R0.alloced A
      clear A R0 HA
      have c27 := R1.ms.cell 27 (by omega); rw [R1.e27] at c27
      go_wp2
      clear c27
      go_loopw [110] (fun t wr => ∃ k : Nat, k ≤ 8 ∧ t = .int .i64 k ∧ ∃ f' n' xs', RS M w wr f n xs N d top 1 f' n' xs' ∧ ∀ j, j < k → (xs' 29)[j]? = some (.int .i64 (-1))) (fun t _ => 8 - (intOf t).toNat)
      case atStart => exact ⟨0, by omega, rfl, f3, n3, xs3, R1, fun j hj => by omega⟩
      case round =>
        clear R1
        obtain ⟨k, hk, rfl, f4, n4, xs4, R, hleaf⟩ := hrel
        have HL : Hid (∀ j, j < k → (xs4 29)[j]? = some (.int .i64 (-1))) := hleaf
        clear hleaf
        by_cases hk8 : k < 8
        · obtain ⟨g, cap, e29, l29, m29⟩ := R.ms.slice_pos (k := 29) rfl (by rw [R.n29]; omega)
          have c29 := R.ms.cell 29 (by omega); rw [e29, R.n29] at c29
          have c27 := R.ms.cell 27 (by omega); rw [R.e27] at c27
          obtain ⟨⟨vk, ck⟩, fk⟩ := R.slot e29 (j := k) (by omega)
          have hlen : Hid ((xs4 29).length = 8) := by unfold Hid; rw [R.ms.len rfl, R.n29]; rfl
          have E29 : Hid (f4 29 = .slice (some ⟨g, 0, none⟩) (n4 29) cap) := e29
          have HR : Hid (RS M w wr f n xs N d top 1 f4 n4 xs4) := R
          have fz := R.ms.fro
          clear e29 R l29 m29
          have b0 : (0 : Int) ≤ (k : Int) := by omega
          have b1 : (k : Int) < 8 := by omega
          go_wp2_with fail
          go_big_region
          go_wp2
          go_roundw
          case rel =>
            refine ⟨k + 1, by omega, by go_num, f4, n4, _, (HR.out.data E29.out k (.int .i64 (-1))).draw, fun j hj => ?_⟩
            rw [upd_same]
            by_cases e : k = j
            · subst e; rw [List.getElem?_set_self (by rw [hlen.out]; omega)]
            · rw [List.getElem?_set_ne e]; exact HL.out j (by omega)
          case measure => simp [intOf]; omega
        · obtain rfl : k = 8 := by omega
          obtain ⟨wr1, hwr1⟩ : ∃ wr1, wr1 = wr := ⟨_, rfl⟩
          subst hwr1
          go_wp2
          go_loopw [7, 9] (fun t lv wr => ∃ L : Nat, 1 ≤ L ∧ L ≤ d + 1 ∧ t = .int .i32 ((L : Int) - 1) ∧ lv = .int .i64 L ∧ ∃ f' n' xs', RS M w wr f n xs N d top L f' n' xs' ∧ (∀ j, j < 8 → (xs' 29)[j]? = some (.int .i64 (-1))) ∧ ∀ j, 1 ≤ j → j < L → (xs' 29)[j * 8]? = some (.int .i64 ((j : Int) - 1))) (fun _ lv _ => d + 1 - (intOf lv).toNat)
          case atStart => exact ⟨1, by omega, by omega, rfl, rfl, f4, n4, xs4, R, HL.out, fun j h1 h2 => by omega⟩
          case round =>
            clear HL R
            obtain ⟨L, hL1, hLd, rfl, rfl, f5, n5, xs5, R, hleaf, hchain⟩ := hrel
            have HL : Hid ((∀ j, j < 8 → (xs5 29)[j]? = some (.int .i64 (-1))) ∧ ∀ j, 1 ≤ j → j < L → (xs5 29)[j * 8]? = some (.int .i64 ((j : Int) - 1))) := ⟨hleaf, hchain⟩
            clear hleaf hchain
            have c26 := R.ms.cell 26 (by omega); rw [R.e26] at c26
            by_cases hLd' : L ≤ d
            · have hA := alloc_any M wr f5 n5 xs5 R.ms R.e31 R.e27 (by rw [R.n30]; omega) (by rw [R.n32]; omega) (by rw [R.n29]; omega)
              rw [R.n30] at hA
              have HA : Hid (Calls Yba.prog 17 #[.pointer (some ⟨M, 25, none⟩)] wr fun e w' => e = .returned (.int .i32 (L : Int)) ∧ ∃ f' n' xs', Alloced M wr w' f5 n5 xs5 f' n' xs') := hA
              clear hA
              go_wp2_with fail
              refine HA.out.mono ?_
              rintro e we ⟨rfl, f6, n6, xs6, A⟩
              have R6 := R.alloced A
              have HL6 : Hid ((∀ j, j < 8 → (xs6 29)[j]? = some (.int .i64 (-1))) ∧ ∀ j, 1 ≤ j → j < L → (xs6 29)[j * 8]? = some (.int .i64 ((j : Int) - 1))) :=
                ⟨fun j hj => by rw [A.entry (by rw [R.n29]; omega)]; exact HL.out.1 j hj, fun j h1 h2 => by rw [A.entry (by rw [R.n29]; omega)]; exact HL.out.2 j h1 h2⟩
              clear A R HA HL c26
              have d26 := R6.ms.cell 26 (by omega); rw [R6.e26] at d26
              have d27 := R6.ms.cell 27 (by omega); rw [R6.e27] at d27
              have d28 := R6.ms.cell 28 (by omega); rw [R6.e28] at d28
              obtain ⟨wv, hw1, hw8, hW⟩ : ∃ wv : Int, 1 ≤ wv ∧ wv ≤ 8 ∧ Hid (Calls Yba.prog 18 #[.pointer (some ⟨M, 25, none⟩), .int .i64 (L : Int)] we fun e w' => e = .returned (.int .i64 wv) ∧ w' = we) := by
                by_cases e : L = d
                · exact ⟨top, ht1, ht8, width_top M we L d top d26 d28 (by simp [e])⟩
                · exact ⟨8, by omega, by omega, width_low M we L d 8 d26 d27 (by simp; omega)⟩
              clear d26 d27 d28
              go_wp2_with fail
              refine hW.out.mono ?_
              rintro e w' ⟨rfl, hw'⟩
              subst hw'
              clear hW
              go_wp2
              go_loopw [142] (fun t wr => ∃ k : Nat, (k : Int) ≤ wv ∧ t = .int .i64 k ∧ ∃ f' n' xs', RS M w wr f n xs N d top (L + 1) f' n' xs' ∧ (∀ j, j < 8 → (xs' 29)[j]? = some (.int .i64 (-1))) ∧ (∀ j, 1 ≤ j → j < L → (xs' 29)[j * 8]? = some (.int .i64 ((j : Int) - 1))) ∧ (1 ≤ k → (xs' 29)[L * 8]? = some (.int .i64 ((L : Int) - 1)))) (fun t _ => wv.toNat - (intOf t).toNat)
              case atStart => exact ⟨0, by omega, rfl, f6, n6, xs6, R6, HL6.out.1, HL6.out.2, fun h => by omega⟩
              case round =>
                clear HL6 R6
                obtain ⟨k, hk, rfl, f7, n7, xs7, R, hleaf, hchain, hent⟩ := hrel
                have HL : Hid ((∀ j, j < 8 → (xs7 29)[j]? = some (.int .i64 (-1))) ∧ (∀ j, 1 ≤ j → j < L → (xs7 29)[j * 8]? = some (.int .i64 ((j : Int) - 1))) ∧ (1 ≤ k → (xs7 29)[L * 8]? = some (.int .i64 ((L : Int) - 1)))) := ⟨hleaf, hchain, hent⟩
                clear hleaf hchain hent
                have hlen : Hid ((xs7 29).length = 8 * (L + 1)) := by unfold Hid; rw [R.ms.len rfl, R.n29]; show 8 * (L + 1) * 1 = _; omega
                by_cases hkw : (k : Int) < wv
                · obtain ⟨g, cap, e29, l29, m29⟩ := R.ms.slice_pos (k := 29) rfl (by rw [R.n29]; omega)
                  have c29 := R.ms.cell 29 (by omega); rw [e29, R.n29] at c29
                  have c27 := R.ms.cell 27 (by omega); rw [R.e27] at c27
                  obtain ⟨⟨vk, ck⟩, fk⟩ := R.slot e29 (j := L * 8 + k) (by omega)
                  have E29 : Hid (f7 29 = .slice (some ⟨g, 0, none⟩) (n7 29) cap) := e29
                  have HR : Hid (RS M w wr f n xs N d top (L + 1) f7 n7 xs7) := R
                  have fz := R.ms.fro
                  clear e29 R l29 m29
                  have b0 : (0 : Int) ≤ (L : Int) * 8 + (k : Int) := by omega
                  have b1 : (L : Int) * 8 + (k : Int) < 8 * ((L : Int) + 1) := by omega
                  go_wp2_with fail
                  go_big_region
                  go_wp2
                  go_roundw
                  case rel =>
                    refine ⟨k + 1, by omega, by go_num, f7, n7, _, (HR.out.data E29.out (L * 8 + k) (.int .i64 ((L : Int) - 1))).draw, fun j hj => ?_, fun j h1 h2 => ?_, fun _ => ?_⟩
                    · rw [upd_same, List.getElem?_set_ne (by omega)]; exact HL.out.1 j hj
                    · rw [upd_same, List.getElem?_set_ne (by omega)]; exact HL.out.2.1 j h1 h2
                    · rw [upd_same]
                      by_cases e : k = 0
                      · subst e; rw [Nat.add_zero, List.getElem?_set_self (by rw [hlen.out]; omega)]
                      · rw [List.getElem?_set_ne (by omega)]; exact HL.out.2.2 (by omega)
                  case measure => simp [intOf]; omega
                · obtain ⟨gr, capr, e30, l30, m30⟩ := R.ms.slice_pos (k := 30) rfl (by rw [R.n30]; omega)
                  have c30 := R.ms.cell 30 (by omega); rw [e30, R.n30] at c30
                  obtain ⟨⟨q, cq⟩, fq⟩ := R.ref e30 (j := L - 1) (by omega)
                  have E30 : Hid (f7 30 = .slice (some ⟨gr, 0, none⟩) (n7 30) capr) := e30
                  have HR : Hid (RS M w wr f n xs N d top (L + 1) f7 n7 xs7) := R
                  have fz := R.ms.fro
                  have hkw' : wv ≤ (k : Int) := by omega
                  clear e30 R l30 m30
                  have hcast : ((L : Int) - 1).toNat = L - 1 := by omega
                  have hc0 : (0 : Int) ≤ (L : Int) - 1 := by omega
                  have hc1 : (L : Int) - 1 < (L : Int) + 1 := by omega
                  go_wp2
                  go_roundw
                  case rel =>
                    refine ⟨L + 1, by omega, by omega, ?_, ?_, f7, n7, _, HR.out.count E30.out (L - 1) _, fun j hj => ?_, fun j h1 h2 => ?_⟩
                    · first | omega | go_num
                    · first | omega | go_num
                    · rw [upd_other _ _ (by omega)]; exact HL.out.1 j hj
                    · rw [upd_other _ _ (by omega)]
                      by_cases e : j < L
                      · exact HL.out.2.1 j h1 e
                      · obtain rfl : j = L := by omega
                        exact HL.out.2.2 (by omega)
                  case measure => simp [intOf]; omega
            · obtain rfl : L = d + 1 := by omega
              have hdL : (d : Int) < ((d + 1 : Nat) : Int) := by omega
              go_wp2
              go_ret
              exact ⟨d, top, f5, n5, xs5, by omega, by omega, by simp, R, HL.out.1, fun j h1 h2 => HL.out.2 j h1 (by omega)⟩
end Go.Proofs.Ybulkbykw

/- '(*slotStore).width', and the law's own 'zzs3740aleaf': down the first path to a leaf of -1. -/
import Derived.Test.YbulkbykwMach
import Derived.BigQuiet
import Derived.Deep.QuietTactic
namespace Go.Proofs.Ybulkbykw
open Go.ChangeShapes Go.WideShapes Go.ChangeAt Go.RowKit
set_option linter.unusedVariables false

theorem width_top (M : Nat) (w : World) (lev d top : Int) (c26 : w.cell? ⟨M, 26, none⟩ = some (.int .i64 d)) (c28 : w.cell? ⟨M, 28, none⟩ = some (.int .i64 top)) (he : (lev == d) = true) :
    Calls Yba.prog 18 #[.pointer (some ⟨M, 25, none⟩), .int .i64 lev] w fun e w' => e = .returned (.int .i64 top) ∧ w' = w := by
  go_enter Yba.func18, Yba.ntmps18
  go_wp2
  go_ret
  exact ⟨rfl, rfl⟩

theorem width_low (M : Nat) (w : World) (lev d s : Int) (c26 : w.cell? ⟨M, 26, none⟩ = some (.int .i64 d)) (c27 : w.cell? ⟨M, 27, none⟩ = some (.int .i64 s)) (he : (lev == d) = false) :
    Calls Yba.prog 18 #[.pointer (some ⟨M, 25, none⟩), .int .i64 lev] w fun e w' => e = .returned (.int .i64 s) ∧ w' = w := by
  go_enter Yba.func18, Yba.ntmps18
  go_wp2
  go_ret
  exact ⟨rfl, rfl⟩

/-- What the walk down reads. -/
structure LF (M g d cap : Nat) (w : World) : Prop where
  c26 : w.cell? ⟨M, 26, none⟩ = some (.int .i64 d)
  c27 : w.cell? ⟨M, 27, none⟩ = some (.int .i64 8)
  c29 : w.cell? ⟨M, 29, none⟩ = some (.slice (some ⟨g, 0, none⟩) (8 * (d + 1)) cap)
  leaf : ∀ j, j < 8 → w.cell? ⟨g, j, none⟩ = some (.int .i64 (-1))
  chain : ∀ j, 1 ≤ j → j ≤ d → w.cell? ⟨g, j * 8, none⟩ = some (.int .i64 ((j : Int) - 1))

theorem LF.draws {M g d cap : Nat} {w : World} (h : LF M g d cap w) (n : Nat) : LF M g d cap (w.drewN n) := ⟨h.c26, h.c27, h.c29, h.leaf, h.chain⟩

theorem drewN_more (w : World) (a b : Nat) : (w.drewN a).drewN b = w.drewN (a + b) := by simp [World.drewN, Nat.add_assoc]

set_option maxHeartbeats 1000000 in
theorem leaf_any (M g d cap : Nat) (w : World) (h : LF M g d cap w) (hd : d ≤ 100) (hcap : cap ≤ maxLen) (hdc : 8 * (d + 1) ≤ cap) :
    Calls Yba.prog 9 #[.pointer (some ⟨M, 25, none⟩), .int .i32 d] w fun e w' => e = .returned (.bool true) ∧ ∃ k, w' = w.drewN k := by
  unfold maxLen at hcap
  have f27 := h.c27
  go_enter Yba.func9, Yba.ntmps9
  go_wp2
  clear f27
  go_loopw [5, 6] (fun t lv wr => ∃ k : Nat, k ≤ d ∧ t = .int .i64 ((d - k : Nat) : Int) ∧ lv = .int .i64 k ∧ Hid (∃ q, wr = w.drewN q)) (fun _ lv _ => d - (intOf lv).toNat)
  case atStart => exact ⟨0, Nat.zero_le _, rfl, rfl, ⟨0, rfl⟩⟩
  case round =>
    obtain ⟨k, hk, rfl, rfl, hq⟩ := hrel
    have F : LF M g d cap wr := by obtain ⟨q, hq⟩ := hq.out; rw [hq]; exact h.draws q
    have f26 := F.c26
    have f27 := F.c27
    have f29 := F.c29
    by_cases hkd : k < d
    · have fc := F.chain (d - k) (by omega) (by omega)
      have HM : Hid (d - k + k = d) := by unfold Hid; omega
      have hm1 : 1 ≤ d - k := by omega
      have hm2 : d - k ≤ d := by omega
      generalize d - k = T at *
      have b1 : (k : Int) < (d : Int) := by omega
      have b2 : (T : Int) * 8 < 8 * ((d : Int) + 1) := by omega
      have b3 : (0 : Int) ≤ (T : Int) * 8 := by omega
      have b4 : decide ((T : Int) < 0) = false := by simp
      have b5 : decide (8 * ((d : Int) + 1) ≤ (T : Int) * 8) = false := by simp; omega
      go_wp2
      go_quiet (fail)
      go_wp2
      go_quiet (fail)
      go_wp2
      go_roundw
      case rel => exact ⟨k + 1, by omega, by rw [show ((d - (k + 1) : Nat) : Int) = (T : Int) - 1 from by have := HM.out; omega], by go_num, (by obtain ⟨q, hq⟩ := hq.out; exact ⟨q + _, by rw [hq, drewN_more]⟩)⟩
      case measure => simp [intOf]; omega
    · obtain rfl : k = d := by omega
      rw [Nat.sub_self]
      go_wp2
      clear f26 f27 f29 F
      go_loopw [7] (fun i wr => ∃ j : Nat, j ≤ 8 ∧ i = .int .i64 j ∧ Hid (∃ q, wr = w.drewN q)) (fun i _ => 8 - (intOf i).toNat)
      case atStart => exact ⟨0, Nat.zero_le _, rfl, hq⟩
      case round =>
        clear hq
        obtain ⟨j, hj, rfl, hq⟩ := hrel
        have F : LF M g k cap wr := by obtain ⟨q, hq⟩ := hq.out; rw [hq]; exact h.draws q
        have f27 := F.c27
        have f29 := F.c29
        by_cases hj8 : j < 8
        · have fl := F.leaf j hj8
          have b4 : decide ((j : Int) < 0) = false := by simp
          have b5 : decide (8 * ((k : Int) + 1) ≤ (j : Int)) = false := by simp; omega
          go_wp2
          go_roundw
          case rel => exact ⟨j + 1, by omega, by go_num, hq⟩
          case measure => simp [intOf]; omega
        · go_wp2
          go_ret
          exact ⟨rfl, hq.out⟩
end Go.Proofs.Ybulkbykw

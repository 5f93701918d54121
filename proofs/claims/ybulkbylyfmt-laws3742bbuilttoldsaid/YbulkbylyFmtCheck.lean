/- 'zzs3742bcheck': true at whatever bytes, wherever the scanner stands. -/
import Derived.Test.YbulkbylyFmtScan
namespace Go.Proofs.YbulkbylyFmt
open Go.ChangeShapes Go.WideShapes Go.ChangeAt Go.RowKit
open Go.Extern.Stop Go.Stop Go.Extern
set_option linter.unusedVariables false

theorem space_yes (x : Int) (w : World) (h : Space x) : Calls Ybaf.prog 9 #[.int .u8 x] w fun e w' => e = .returned (.bool true) ∧ w' = w := by
  rcases h with rfl | rfl | rfl | rfl
  all_goals
    go_enter Ybaf.func9, Ybaf.ntmps9
    go_wp2
    go_ret
    exact ⟨rfl, rfl⟩
theorem space_no (x : Int) (w : World) (h : ¬ Space x) : Calls Ybaf.prog 9 #[.int .u8 x] w fun e w' => e = .returned (.bool false) ∧ w' = w := by
  have n1 : (x == 32) = false := by simp; exact fun e => h (Or.inl e)
  have n2 : (x == 9) = false := by simp; exact fun e => h (Or.inr (Or.inl e))
  have n3 : (x == 10) = false := by simp; exact fun e => h (Or.inr (Or.inr (Or.inl e)))
  have n4 : (x == 13) = false := by simp; exact fun e => h (Or.inr (Or.inr (Or.inr e)))
  clear h
  go_enter Ybaf.func9, Ybaf.ntmps9
  go_wp2
  go_ret
  exact ⟨rfl, rfl⟩

set_option maxRecDepth 100000 in
set_option maxHeartbeats 4000000 in
theorem check_any (F : Interp) (b off n c p : Nat) (xs : List Int) (dep x : Int) (w : World) (hF : F.answers w.tape) (hx : xs.length = n) (hn : n ≤ 4096) (hp : p < n) (A : Bytes w b off n xs) :
    Calls Ybaf.prog 6 #[.slice (some ⟨b, off, none⟩) n c, .int .i64 p, .int .i64 dep, .int .u8 x] w fun e w' => e = .returned (.bool true) ∧ Below w.heap.size w w' := by
  have hbl := A.lt (by omega)
  have A0 : Hid (Bytes w b off n xs) := A
  have HF0 : Hid (F.answers w.tape) := hF
  clear A hF
  go_enter Ybaf.func6, Ybaf.ntmps6
  go_wp2_with fail
  refine (clone_any b off n c xs w hx hn A0.out).mono ?_
  rintro e w1 ⟨g, cap, rfl, hown, hb1⟩
  have B1 : Hid (Below w.heap.size w w1) := hb1
  have G1 : Hid (Bytes w1 g 0 n xs) := Bytes.of_own hx hown
  have hg1 : g < w1.heap.size := G1.out.lt (by omega)
  have hs1 : w.heap.size ≤ w1.heap.size := hb1.size
  clear hown hb1
  obtain ⟨S, hS⟩ : ∃ S, S = w1.heap.size := ⟨_, rfl⟩
  obtain ⟨w2, hw2⟩ : ∃ w2, w2 = w1.alloc (.cells #[.slice (some ⟨b, off, none⟩) n c, .int .i64 p] 30) := ⟨_, rfl⟩
  have A2 : Hid (Bytes w2 b off n xs) := by rw [hw2]; exact (A0.out.below B1.out hbl).below ((Below.refl _ w1).alloc (Nat.le_refl _) _) (by omega)
  have G2 : Hid (Bytes w2 g 0 n xs) := by rw [hw2]; exact G1.out.below ((Below.refl _ w1).alloc (Nat.le_refl _) _) hg1
  have SC : Hid (Sc S (.slice (some ⟨b, off, none⟩) n c) p w2 w2) := by
    rw [hw2, hS]
    exact ⟨Below.refl _ _, by simp, by simp, fun j => by simp⟩
  have B2 : Hid (Below w.heap.size w w2) := by rw [hw2]; exact B1.out.alloc hs1 _
  have hS2 : S < w2.heap.size := by rw [hw2, hS]; simp
  have F2 : Hid (F.answers w2.tape) := by rw [B2.out.tape]; exact HF0.out
  have hbS : b < S := by omega
  have hgS : g < S := by omega
  have hws : w.heap.size ≤ S := by omega
  go_wp2_with fail
  rw [← hw2]
  simp only [← hS]
  clear hS hw2 hg1 hs1 B1 G1 A0 HF0 hbl
  by_cases hd : 10000 < dep
  · refine (open_deep F S _ p dep x w2 w2 F2.out hS2 (by omega) hd SC.out).mono ?_
    rintro e w3 ⟨a, rfl, hb3⟩
    have c0 : w3.cell? ⟨S, 0, none⟩ = some (.slice (some ⟨b, off, none⟩) n c) := by rw [hb3.cell (p := ⟨S, 0, none⟩) hS2]; exact SC.out.c0
    have c1 : w3.cell? ⟨S, 1, none⟩ = some (.int .i64 p) := by rw [hb3.cell (p := ⟨S, 1, none⟩) hS2]; exact SC.out.c1
    have A3 : Hid (Bytes w3 b off n xs) := A2.out.below hb3 (by omega)
    have G3 : Hid (Bytes w3 g 0 n xs) := G2.out.below hb3 (by omega)
    have B3 : Hid (Below w.heap.size w w3) := B2.out.trans (hb3.mono (by have := B2.out.size; omega))
    have hdd : decide (10000 < dep) = true := by simp; exact hd
    clear hb3 A2 G2 SC B2 F2
    go_wp2_with fail
    refine (equal_any b off c g 0 cap n xs w3 hn A3.out G3.out).mono ?_
    rintro e w4 ⟨rfl, r, rfl⟩
    go_wp2
    go_ret
    exact ⟨rfl, ⟨B3.out.os, B3.out.tape, B3.out.output, B3.out.size, B3.out.block⟩⟩
  · refine (open_ok S b off n c p xs dep x w2 w2 hn hp hbS (by omega) A2.out SC.out).mono ?_
    rintro e w3 ⟨q, q1, q2, q3, q4, rfl, h3⟩
    have c0 := h3.c0
    have c1 := h3.c1
    have hS3 : S ≤ w2.heap.size := by omega
    have A3 : Hid (Bytes w3 b off n xs) := A2.out.below h3.bel hbS
    have G3 : Hid (Bytes w3 g 0 n xs) := G2.out.below h3.bel hgS
    have B3 : Hid (Below w.heap.size w w3) := B2.out.trans (h3.bel.mono hws)
    have HQ : Hid ((∀ j, p + 1 ≤ j → j < q → Space (xs.getD j 0)) ∧ ¬ Space (peekV xs n q)) := ⟨q3, q4⟩
    have hdd : decide (10000 < dep) = false := by simp; omega
    clear h3 A2 G2 SC B2 F2 q3 q4
    go_wp2_with fail
    refine (equal_any b off c g 0 cap n xs w3 hn A3.out G3.out).mono ?_
    rintro e w4 ⟨rfl, r, rfl⟩
    clear G3
    go_wp2
    go_loopw [13] (fun i wr => ∃ k : Nat, p + 1 ≤ k ∧ k ≤ q ∧ i = .int .i64 k ∧ wr = w3.drewN r) (fun i _ => q - (intOf i).toNat)
    case atStart => exact ⟨p + 1, by omega, q1, by go_num, rfl⟩
    case round =>
      obtain ⟨k, k1, k2, rfl, rfl⟩ := hrel
      by_cases hkq : k < q
      · have hkn : k < n := by omega
        have ck := A3.out k hkn
        have HS : Hid (Space (xs.getD k 0)) := HQ.out.1 k k1 hkq
        clear HQ A3
        generalize xs.getD k 0 = y at *
        go_wp2_with (go_at_call 9; refine (space_yes y _ HS.out).mono ?_; rintro e w' ⟨rfl, rfl⟩)
        exact ⟨⟨k + 1, by omega, by omega, by go_num, trivial⟩, by simp [intOf]; omega⟩
      · obtain rfl : k = q := by omega
        clear hkq
        by_cases hkn : k < n
        · have ck := A3.out k hkn
          have HP : peekV xs n k = xs.getD k 0 := by unfold peekV; rw [if_pos hkn]
          rw [HP] at HQ c1
          have HS : Hid (¬ Space (xs.getD k 0)) := HQ.out.2
          clear HQ A3
          simp only [HP]
          clear HP
          generalize xs.getD k 0 = y at *
          cases he : (y == x) with
          | true =>
            rw [if_pos he] at c1
            go_wp2_with (go_at_call 9; refine (space_no y _ HS.out).mono ?_; rintro e w' ⟨rfl, rfl⟩)
            go_ret
            exact ⟨rfl, ⟨B3.out.os, B3.out.tape, B3.out.output, B3.out.size, B3.out.block⟩⟩
          | false =>
            rw [if_neg (by rw [he]; simp)] at c1
            go_wp2_with (go_at_call 9; refine (space_no y _ HS.out).mono ?_; rintro e w' ⟨rfl, rfl⟩)
            go_ret
            exact ⟨rfl, ⟨B3.out.os, B3.out.tape, B3.out.output, B3.out.size, B3.out.block⟩⟩
        · have HP : peekV xs n k = 0 := by unfold peekV; rw [if_neg hkn]
          rw [HP] at c1
          simp only [HP]
          clear HP HQ A3
          cases he : ((0 : Int) == x) with
          | true =>
            rw [if_pos he] at c1
            go_wp2
            go_ret
            exact ⟨rfl, ⟨B3.out.os, B3.out.tape, B3.out.output, B3.out.size, B3.out.block⟩⟩
          | false =>
            rw [if_neg (by rw [he]; simp)] at c1
            go_wp2
            go_ret
            exact ⟨rfl, ⟨B3.out.os, B3.out.tape, B3.out.output, B3.out.size, B3.out.block⟩⟩
end Go.Proofs.YbulkbylyFmt

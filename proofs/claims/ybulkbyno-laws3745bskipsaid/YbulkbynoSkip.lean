/- 'skipSpaces': what it computes. -/
import Derived.Test.YbulkbynoRows
import Derived.WalkKit
import Derived.WalkSpells
import Derived.ProofKit
import Derived.OpenShut
import Derived.Below
import Derived.Handy
namespace Go.Proofs.Ybulkbyno
open Go.ChangeShapes Go.WideShapes Go.ChangeAt Go.RowKit
set_option linter.unusedVariables false
def intOf : Value → Int | .int _ q => q | _ => 0

/-- The bytes from k to r are spaces, and r is the end or no space. -/
structure Skips (s : ByteArray) (k r : Nat) : Prop where
  le : k ≤ r
  sz : r ≤ s.size
  sp : ∀ i, k ≤ i → i < r → ∀ h : i < s.size, ((s[i].toNat : Int) == 32) = true
  fin : ∀ h : r < s.size, ((s[r].toNat : Int) == 32) = false

set_option maxRecDepth 100000 in
set_option maxHeartbeats 1000000 in
theorem skip_any (s : ByteArray) (k : Nat) (w : World) (hs : s.size ≤ 1024) (hk : k ≤ s.size) :
    Calls Yba.prog 4 #[.string s, .int .i64 k] w fun e w' => w' = w ∧ ∃ r : Nat, e = .returned (.int .i64 r) ∧ Skips s k r := by
  go_enter Yba.func4, Yba.ntmps4
  go_wp2
  go_loopw [1] (fun i wr => ∃ j : Nat, k ≤ j ∧ j ≤ s.size ∧ i = .int .i64 j ∧ wr = w ∧ Hid (∀ i, k ≤ i → i < j → ∀ h : i < s.size, ((s[i].toNat : Int) == 32) = true)) (fun i _ => s.size - (intOf i).toNat)
  case atStart => exact ⟨k, by omega, hk, rfl, rfl, fun i h1 h2 => absurd h1 (by omega)⟩
  case round =>
    obtain ⟨j, h1, h2, rfl, rfl, H⟩ := hrel
    by_cases hj : j < s.size
    · cases hsp : ((s[j].toNat : Int) == 32) with
      | true =>
        have HS : Hid (((s[j].toNat : Int) == 32) = true) := hsp
        go_wp2
        refine ⟨⟨j + 1, by omega, by omega, by go_num, trivial, fun i h1 h2 h => ?_⟩, by simp [intOf]; omega⟩
        by_cases hij : i < j
        · exact H.out i h1 hij h
        · obtain rfl : i = j := by omega
          exact HS.out
      | false =>
        have HS : Hid (((s[j].toNat : Int) == 32) = false) := hsp
        go_wp2
        go_ret
        exact ⟨rfl, j, rfl, h1, h2, H.out, fun h => HS.out⟩
    · go_wp2
      go_ret
      exact ⟨rfl, j, rfl, h1, h2, H.out, fun h => absurd h hj⟩

theorem skip_past (s : ByteArray) (k : Int) (w : World) (hs : s.size ≤ 1024) (hk : (s.size : Int) ≤ k) :
    Calls Yba.prog 4 #[.string s, .int .i64 k] w fun e w' => w' = w ∧ e = .returned (.int .i64 k) := by
  have hd : decide (k < (s.size : Int)) = false := by simp; exact hk
  go_enter Yba.func4, Yba.ntmps4
  go_wp2
  go_loopw [1] (fun i wr => i = .int .i64 k ∧ wr = w) (fun _ _ => 0)
  case atStart => exact ⟨rfl, rfl⟩
  case round =>
    obtain ⟨rfl, rfl⟩ := hrel
    go_wp2
    go_ret
    exact ⟨rfl, rfl⟩

theorem skips_stay {s : ByteArray} {k r r2 : Nat} (h : Skips s k r) (h2 : Skips s r r2) : r2 = r := by
  have := h2.le
  have := h2.sz
  by_cases hr : r < r2
  · have e1 := h2.sp r (Nat.le_refl _) hr (by omega)
    have e2 := h.fin (by omega)
    rw [e2] at e1
    cases e1
  · omega

set_option maxRecDepth 100000 in
set_option maxHeartbeats 1000000 in
theorem skip_walk (a0 : ByteArray) (a1 : Int) (w1 : (Lit.int .i64 a1).wf = true) (w : World) :
    Calls Yba.prog 3 #[.string a0, .int .i64 a1] w fun e w' => e = .returned (.bool true) ∧ Grown w w' := by
  have hb : -9223372036854775808 ≤ a1 ∧ a1 ≤ 9223372036854775807 := by
    have := w1
    simp [Lit.wf, IntKind.min, IntKind.max, IntKind.signed, IntKind.bits] at this
    omega
  clear w1
  by_cases g1 : 1024 < a0.size
  · have hd1 : decide (1024 < (a0.size : Int)) = true := by simp; omega
    go_enter Yba.func3, Yba.ntmps3
    go_wp2
    go_ret
    exact ⟨rfl, Grown.refl _⟩
  have hd1 : decide (1024 < (a0.size : Int)) = false := by simp; omega
  by_cases hneg : a1 < 0
  · have hd2 : decide (a1 < 0) = true := by simp; exact hneg
    go_enter Yba.func3, Yba.ntmps3
    go_wp2_with fail
    obtain ⟨k, hk⟩ : ∃ k : Int, k = -(a1 + 1) := ⟨_, rfl⟩
    rw [← hk]
    have hk0 : 0 ≤ k := by omega
    have hk1 : k ≤ 9223372036854775807 := by omega
    clear hk hb hneg hd2
    by_cases hs : (a0.size : Int) ≤ k
    · refine (skip_past a0 k w (by omega) hs).mono ?_
      rintro e w' ⟨rfl, rfl⟩
      have hge : decide ((a0.size : Int) ≤ k) = true := by simp; exact hs
      go_wp2
      go_ret
      exact ⟨rfl, Grown.refl _⟩
    · obtain ⟨n, hn⟩ : ∃ n : Nat, k = (n : Int) := ⟨k.toNat, by omega⟩
      subst hn
      have hge : decide ((a0.size : Int) ≤ (n : Int)) = false := by simp; omega
      refine (skip_any a0 n w (by omega) (by omega)).mono ?_
      rintro e w' ⟨rfl, r, rfl, S⟩
      have s1 := S.le
      have s2 := S.sz
      have HS : Hid (Skips a0 n r) := S
      clear S
      go_wp2
      go_loopw [7] (fun i wr => ∃ j : Nat, n ≤ j ∧ j ≤ r ∧ i = .int .i64 j ∧ wr = w') (fun i _ => r - (intOf i).toNat)
      case atStart => exact ⟨n, by omega, s1, rfl, rfl⟩
      case round =>
        obtain ⟨j, h1, h2, rfl, rfl⟩ := hrel
        by_cases hj : j < r
        · have hja : j < a0.size := by omega
          have hsp := HS.out.sp j h1 hj hja
          have hne : ((a0[j].toNat : Int) != 32) = false := by rw [bne, hsp]; rfl
          go_wp2
          exact ⟨⟨j + 1, by omega, by omega, by go_num, trivial⟩, by simp [intOf]; omega⟩
        · obtain rfl : j = r := by omega
          by_cases hjs : j < a0.size
          · have hf := HS.out.fin hjs
            go_wp2_with fail
            refine (skip_any a0 j _ (by omega) (by omega)).mono ?_
            rintro e w' ⟨rfl, r2, rfl, S2⟩
            obtain rfl := skips_stay HS.out S2
            go_wp2
            go_ret
            exact ⟨rfl, Grown.refl _⟩
          · go_wp2_with fail
            refine (skip_any a0 j _ (by omega) (by omega)).mono ?_
            rintro e w' ⟨rfl, r2, rfl, S2⟩
            obtain rfl := skips_stay HS.out S2
            go_wp2
            go_ret
            exact ⟨rfl, Grown.refl _⟩
  · have hd2 : decide (a1 < 0) = false := by simp; omega
    go_enter Yba.func3, Yba.ntmps3
    go_wp2_with fail
    obtain ⟨k, hk⟩ : ∃ k : Int, k = a1 := ⟨_, rfl⟩
    subst hk
    have hk0 : 0 ≤ k := by omega
    have hk1 : k ≤ 9223372036854775807 := by omega
    clear hb hneg hd2
    by_cases hs : (a0.size : Int) ≤ k
    · refine (skip_past a0 k w (by omega) hs).mono ?_
      rintro e w' ⟨rfl, rfl⟩
      have hge : decide ((a0.size : Int) ≤ k) = true := by simp; exact hs
      go_wp2
      go_ret
      exact ⟨rfl, Grown.refl _⟩
    · obtain ⟨n, hn⟩ : ∃ n : Nat, k = (n : Int) := ⟨k.toNat, by omega⟩
      subst hn
      have hge : decide ((a0.size : Int) ≤ (n : Int)) = false := by simp; omega
      refine (skip_any a0 n w (by omega) (by omega)).mono ?_
      rintro e w' ⟨rfl, r, rfl, S⟩
      have s1 := S.le
      have s2 := S.sz
      have HS : Hid (Skips a0 n r) := S
      clear S
      go_wp2
      go_loopw [7] (fun i wr => ∃ j : Nat, n ≤ j ∧ j ≤ r ∧ i = .int .i64 j ∧ wr = w') (fun i _ => r - (intOf i).toNat)
      case atStart => exact ⟨n, by omega, s1, rfl, rfl⟩
      case round =>
        obtain ⟨j, h1, h2, rfl, rfl⟩ := hrel
        by_cases hj : j < r
        · have hja : j < a0.size := by omega
          have hsp := HS.out.sp j h1 hj hja
          have hne : ((a0[j].toNat : Int) != 32) = false := by rw [bne, hsp]; rfl
          go_wp2
          exact ⟨⟨j + 1, by omega, by omega, by go_num, trivial⟩, by simp [intOf]; omega⟩
        · obtain rfl : j = r := by omega
          by_cases hjs : j < a0.size
          · have hf := HS.out.fin hjs
            go_wp2_with fail
            refine (skip_any a0 j _ (by omega) (by omega)).mono ?_
            rintro e w' ⟨rfl, r2, rfl, S2⟩
            obtain rfl := skips_stay HS.out S2
            go_wp2
            go_ret
            exact ⟨rfl, Grown.refl _⟩
          · go_wp2_with fail
            refine (skip_any a0 j _ (by omega) (by omega)).mono ?_
            rintro e w' ⟨rfl, r2, rfl, S2⟩
            obtain rfl := skips_stay HS.out S2
            go_wp2
            go_ret
            exact ⟨rfl, Grown.refl _⟩
end Go.Proofs.Ybulkbyno

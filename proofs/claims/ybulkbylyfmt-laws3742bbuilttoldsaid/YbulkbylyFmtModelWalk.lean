/- 'LawS3742BModel': the walk, out of the check's contract. -/
import Derived.Test.YbulkbylyFmtCheck
namespace Go.Proofs.YbulkbylyFmt
open Go.ChangeShapes Go.WideShapes Go.ChangeAt Go.RowKit
open Go.Extern.Stop Go.Stop Go.Extern
set_option linter.unusedVariables false

/-- A slice of integers that came in: nil; or it leads to a row of 'cap' cells. -/
def IsRow (k : IntKind) (w : World) (a : Option Addr) (len cap : Nat) (zs : List Int) : Prop :=
  (a = none ∧ len = 0 ∧ cap = 0 ∧ zs = []) ∨
  ∃ x, a = some x ∧ len ≤ cap ∧ cap ≤ maxLen ∧ zs.length = cap ∧ (∀ i, i < zs.length → w.cell? (x.add i) = some (.int k (zs.getD i 0))) ∧ ∀ n ∈ zs, (Lit.int k n).wf = true

theorem row_at {w : World} {a : Option Addr} {len cap : Nat} {zs : List Int} (h : IsRow .u8 w a len cap zs) (hi : 0 < len) :
    ∃ b off, a = some ⟨b, off, none⟩ ∧ (zs.take len).length = len ∧ Bytes w b off len (zs.take len) ∧ ∀ n ∈ zs.take len, (Lit.int .u8 n).wf = true := by
  rcases h with ⟨_, h1, _⟩ | ⟨x, rfl, h2, h3, h4, h5, h6⟩
  · omega
  obtain ⟨b, off, rfl, hc⟩ := ints_at h5 (by omega)
  refine ⟨b, off, rfl, by simp; omega, fun j hj => ?_, fun n hn => h6 n (List.mem_of_mem_take hn)⟩
  rw [hc j (by omega)]
  simp [List.getD, hj]

set_option maxRecDepth 100000 in
set_option maxHeartbeats 2000000 in
/-- slices.Clone of an empty slice that is not nil. -/
theorem clone_zero (x : Addr) (c : Nat) (w : World) :
    Calls Ybaf.prog 5 #[.slice (some x) 0 c] w fun e w' => ∃ a cap, e = .returned (.slice a 0 cap) ∧ Below w.heap.size w w' := by
  obtain ⟨i0, hi, hz0, hz1, hz2⟩ := info_parts info5
  have q22 : ∀ (w : World) (a : Option Addr) (n c n' c' : Nat), (binOp .eql 22 (.slice a n c) (.slice none n' c')).run Ybaf.prog w = .ok (.bool a.isNone) w := fun w a n c n' c' => Lib.run_eql_slice_nil w _ _ a n c n' c' Ybaf.underlying22
  go_enter Ybaf.func5, Ybaf.ntmps5
  go_wp2_with (at_builtin; refine wpList_append_own_at _ rfl _ _ 22 rfl w.heap.size 5 i0 (.int .u8 0) 1 1 Ybaf.underlying22 hi hz0 hz1 hz2 rfl (by decide) _ _ _ rfl (World.ownsRow_made w #[] 0 (Nat.le_refl _) (Nat.zero_le _) rfl) x 0 c [] rfl rfl (by intro j u hj; simp at hj) (by intro u hu; simp at hu) (by unfold maxLen; omega) (by omega) (by simp) ?_)
  intro v' w1 hown hgrow hnil hat
  go_wp2
  go_ret
  have hb : Below w.heap.size w w1 := ((Below.refl _ w).alloc (Nat.le_refl _) _).grown hgrow (by simp) (by intro k hk; simp [Value.ownBlock] at hk; omega)
  rcases hown.2 with ⟨h1, _⟩ | ⟨g, cap, cur, h1, _⟩
  · exact ⟨none, 0, by rw [h1]; rfl, hb⟩
  · exact ⟨some ⟨g, 0, none⟩, cap, by rw [h1]; rfl, hb⟩

set_option maxRecDepth 100000 in
set_option maxHeartbeats 4000000 in
theorem model_walk (F : Interp) (a0 : Option Addr) (len0 cap0 : Nat) (z0 : List Int) (pos dep x : Int) (w : World) (hF : F.answers w.tape) (w0 : IsRow .u8 w a0 len0 cap0 z0) (w1 : (Lit.int .u64 pos).wf = true) :
    Calls Ybaf.prog 3 #[.slice a0 len0 cap0, .int .u64 pos, .int .i64 dep, .int .u8 x] w fun e w' => e = .returned (.bool true) ∧ Below w.heap.size w w' := by
  have hp0 : 0 ≤ pos ∧ pos ≤ 18446744073709551615 := by
    have := w1
    simp [Lit.wf, IntKind.min, IntKind.max, IntKind.signed, IntKind.bits] at this
    omega
  clear w1
  by_cases g1 : 1024 < len0
  · have hd1 : decide (1024 < (len0 : Int)) = true := by simp; omega
    clear w0
    go_enter Ybaf.func3, Ybaf.ntmps3
    go_wp2
    go_ret
    exact ⟨rfl, Below.refl _ _⟩
  have hd1 : decide (1024 < (len0 : Int)) = false := by simp; omega
  by_cases g2 : len0 = 0
  · subst g2
    have HC : Hid (Calls Ybaf.prog 5 #[.slice a0 0 cap0] w fun e w' => ∃ a cap, e = .returned (.slice a 0 cap) ∧ Below w.heap.size w w') := by
      cases a0 with
      | none =>
        rcases w0 with ⟨_, _, rfl, _⟩ | ⟨y, h, _⟩
        · exact (clone_nil w).mono fun e w' ⟨he, hw⟩ => ⟨none, 0, he, by rw [hw]; exact Below.refl _ _⟩
        · cases h
      | some y => exact clone_zero y cap0 w
    have HF : Hid (F.answers w.tape) := hF
    clear w0 hF
    go_enter Ybaf.func3, Ybaf.ntmps3
    go_wp2_with (go_at_call 5; refine HC.out.mono ?_; rintro e w2 ⟨a, cap, rfl, hb⟩; have HB : Hid (Below w.heap.size w w2) := hb; clear hb HC)
    have hAl : Below w2.heap.size w2 (w2.alloc (.cells #[.int .u8 91] 5)) := (Below.refl _ w2).alloc (Nat.le_refl _) _
    have hBB : Below w.heap.size w (w2.alloc (.cells #[.int .u8 91] 5)) := HB.out.trans (hAl.mono HB.out.size)
    have hB1 : Bytes (w2.alloc (.cells #[.int .u8 91] 5)) w2.heap.size 0 1 [91] := by
      intro j hj
      have hj0 : j = 0 := by omega
      subst hj0
      simp
    refine (check_any F w2.heap.size 0 1 1 0 [91] dep x _ (by rw [hBB.tape]; exact HF.out) rfl (by omega) (by omega) hB1).mono ?_
    rintro e w3 ⟨rfl, hb3⟩
    go_wp2
    go_ret
    exact ⟨rfl, hBB.trans (hb3.mono hBB.size)⟩
  · obtain ⟨b, off, rfl, hl, hB, hwf⟩ := row_at w0 (by omega)
    generalize z0.take len0 = xs at *
    have HC : Hid (Calls Ybaf.prog 5 #[.slice (some ⟨b, off, none⟩) len0 cap0] w fun e w' => ∃ g cap, e = .returned (.slice (some ⟨g, 0, none⟩) len0 cap) ∧ Bytes w' g 0 len0 xs ∧ Below w.heap.size w w') :=
      (clone_any b off len0 cap0 xs w hl (by omega) hB).mono fun e w' ⟨g, cap, he, ho, hb⟩ => ⟨g, cap, he, Bytes.of_own hl ho, hb⟩
    have HF : Hid (F.answers w.tape) := hF
    clear w0 hF hB hwf
    go_enter Ybaf.func3, Ybaf.ntmps3
    obtain ⟨m, hm⟩ : ∃ m : Nat, pos % (len0 : Int) = (m : Int) := ⟨(pos % (len0 : Int)).toNat, by have := Int.emod_nonneg pos (show (len0 : Int) ≠ 0 by omega); omega⟩
    have hml : m < len0 := by have := Int.emod_lt_of_pos pos (show (0 : Int) < len0 by omega); omega
    go_wp2_with (go_at_call 5; refine HC.out.mono ?_; rintro e w2 ⟨g, cap, rfl, hB, hb⟩; have HB : Hid (Bytes w2 g 0 len0 xs ∧ Below w.heap.size w w2) := ⟨hB, hb⟩; clear hB hb HC)
    refine (check_any F g 0 len0 cap m xs dep x w2 (by rw [HB.out.2.tape]; exact HF.out) hl (by omega) hml HB.out.1).mono ?_
    rintro e w3 ⟨rfl, hb3⟩
    go_wp2
    go_ret
    exact ⟨rfl, HB.out.2.trans (hb3.mono HB.out.2.size)⟩
end Go.Proofs.YbulkbylyFmt

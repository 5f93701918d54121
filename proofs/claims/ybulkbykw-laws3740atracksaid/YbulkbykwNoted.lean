/- THE SAVES: rows of structs {Slot, Pos int; Made int32} that came in, and 'zzs3740bnoted' by its contract. -/
import Derived.Test.YbulkbykwCommon
namespace Go.Proofs.Ybulkbykw
open Go.ChangeShapes Go.WideShapes Go.ChangeAt Go.RowKit
set_option linter.unusedVariables false

theorem info66 : (Yba.prog.info? 66).map (fun i => (i.zero, i.size, i.bytes)) = some (some (.agg #[.int .i64 0, .int .i64 0, .int .i32 0]), 3, 24) := by kernel_rfl

/-- The three cells of one noted Save. -/
def tc (t : Int × Int × Int) : List Value := [.int .i64 t.1, .int .i64 t.2.1, .int .i32 t.2.2]
def tcs (ts : List (Int × Int × Int)) : List Value := ts.flatMap tc

theorem tcs_length (ts : List (Int × Int × Int)) : (tcs ts).length = ts.length * 3 := by
  induction ts with
  | nil => rfl
  | cons t ts ih => simp [tcs, tc, List.flatMap_cons] at ih ⊢; omega

theorem tcs_snoc (ts : List (Int × Int × Int)) (t : Int × Int × Int) : tcs (ts ++ [t]) = tcs ts ++ tc t := by simp [tcs]
theorem tc_one (t : Int × Int × Int) : ∀ u ∈ tc t, u.oneCell' = true := by
  intro u hu; simp [tc] at hu; rcases hu with rfl | rfl | rfl <;> rfl
theorem tcs_one (ts : List (Int × Int × Int)) : ∀ u ∈ tcs ts, u.oneCell' = true := by
  intro u hu; simp only [tcs, List.mem_flatMap] at hu; obtain ⟨t, _, h⟩ := hu; exact tc_one t u h

theorem tcs_get (ts : List (Int × Int × Int)) (i : Nat) (h : i < ts.length) :
    (tcs ts)[i * 3]? = some (.int .i64 (ts.getD i (0, 0, 0)).1) ∧ (tcs ts)[i * 3 + 1]? = some (.int .i64 (ts.getD i (0, 0, 0)).2.1) ∧ (tcs ts)[i * 3 + 2]? = some (.int .i32 (ts.getD i (0, 0, 0)).2.2) := by
  induction ts generalizing i with
  | nil => simp at h
  | cons t ts ih =>
    match i with
    | 0 => simp [tcs, tc, List.flatMap_cons]
    | i + 1 =>
      have := ih i (by simp at h; omega)
      have e : tcs (t :: ts) = tc t ++ tcs ts := by simp [tcs]
      have l : (tc t).length = 3 := rfl
      rw [e, List.getElem?_append_right (by rw [l]; omega), List.getElem?_append_right (by rw [l]; omega), List.getElem?_append_right (by rw [l]; omega), l]
      rw [show (i + 1) * 3 - 3 = i * 3 by omega, show (i + 1) * 3 + 1 - 3 = i * 3 + 1 by omega, show (i + 1) * 3 + 2 - 3 = i * 3 + 2 by omega]
      simpa [List.getD] using this

/-- A slice of Saves that came in: nil; or its elements' cells lie there. -/
structure IsSaves (w : World) (a : Option Addr) (len cap : Nat) (ts : List (Int × Int × Int)) : Prop where
  size : ts.length = len
  nil : a = none → len = 0 ∧ cap = 0
  cell : ∀ i, i < len → ∃ b off, a = some ⟨b, off, none⟩ ∧ b < w.heap.size
  cells : ∀ b off, a = some ⟨b, off, none⟩ → ∀ i, i < len → w.cell? ⟨b, off + i * 3, none⟩ = some (.int .i64 (ts.getD i (0, 0, 0)).1) ∧ w.cell? ⟨b, off + i * 3 + 1, none⟩ = some (.int .i64 (ts.getD i (0, 0, 0)).2.1) ∧ w.cell? ⟨b, off + i * 3 + 2, none⟩ = some (.int .i32 (ts.getD i (0, 0, 0)).2.2)

theorem IsSaves.below {w w' : World} {a : Option Addr} {len cap : Nat} {ts : List (Int × Int × Int)} (h : IsSaves w a len cap ts) (hb : Below w.heap.size w w') : IsSaves w' a len cap ts := by
  refine ⟨h.size, h.nil, fun i hi => ?_, fun b off e i hi => ?_⟩
  · obtain ⟨b, off, e, hl⟩ := h.cell i hi
    exact ⟨b, off, e, Nat.lt_of_lt_of_le hl hb.size⟩
  · obtain ⟨b', off', e', hl⟩ := h.cell i hi
    rw [e] at e'
    cases e'
    rw [hb.cell (p := ⟨b, off + i * 3, none⟩) hl, hb.cell (p := ⟨b, off + i * 3 + 1, none⟩) hl, hb.cell (p := ⟨b, off + i * 3 + 2, none⟩) hl]
    exact h.cells b off e i hi

theorem three_cells (w : World) (t : Int × Int × Int) (n : Nat) (hn : n = w.heap.size) (e : TypeId) : ∀ j u, (tc t)[j]? = some u → (w.alloc (.cells #[.int .i64 t.1, .int .i64 t.2.1, .int .i32 t.2.2] e)).cell? ((⟨n, 0, none⟩ : Addr).add j) = some u := by
  subst hn
  intro j u hu
  match j, hu with
  | 0, hu => simp [tc] at hu; subst hu; simp [Addr.add]
  | 1, hu => simp [tc] at hu; subst hu; simp [Addr.add]
  | 2, hu => simp [tc] at hu; subst hu; simp [Addr.add]

theorem take_tcs (ts : List (Int × Int × Int)) (k : Nat) (h : k < ts.length) : tcs (ts.take k) ++ tc (ts.getD k (0, 0, 0)) = tcs (ts.take (k + 1)) := by
  rw [List.take_succ_eq_append_getElem h, tcs_snoc]
  simp [List.getD, List.getElem?_eq_getElem h]

set_option maxHeartbeats 1000000 in
theorem noted_any (a : Option Addr) (len cap : Nat) (ts : List (Int × Int × Int)) (w : World) (hs : IsSaves w a len cap ts) (hlen : len ≤ 1024) :
    Calls Yba.prog 11 #[.slice a len cap] w fun e w' => e = .returned (.slice (some ⟨w.heap.size, 0, none⟩) len (len + 1)) ∧
      w'.ownsRow w.heap.size 66 3 (.slice (some ⟨w.heap.size, 0, none⟩) len (len + 1)) len (tcs ts) ∧ Below w.heap.size w w' := by
  obtain ⟨i0, hi, hz0, hz1, hz2⟩ := info_parts info66
  have hb2 : i0.bytes * (len + 1) ≤ 281474976710656 := by rw [hz2]; omega
  have hb3 : len + 1 ≤ maxLen := by unfold maxLen; omega
  go_enter Yba.func11, Yba.ntmps11
  go_wp2_with (at_make; refine wpList_make_own _ rfl _ _ 45 rfl w.heap.size 66 i0 _ 3 Yba.underlying45 hi hz0 hz1 _ _ _ (len + 1) rfl rfl (by omega) hb2 hb3 (Nat.le_refl _) ?_; intro wa howna hgrowa)
  go_loopw [3, 12] (fun s i wr => ∃ k : Nat, k ≤ len ∧ i = .int .i64 k ∧ s = .slice (some ⟨w.heap.size, 0, none⟩) k (len + 1) ∧ wr.ownsRow w.heap.size 66 3 (.slice (some ⟨w.heap.size, 0, none⟩) k (len + 1)) k (tcs (ts.take k)) ∧ Below w.heap.size w wr) (fun _ i _ => len - (intOf i).toNat)
  case atStart => exact ⟨0, Nat.zero_le _, rfl, rfl, by simpa [tcs] using howna, (Below.refl _ _).grown hgrowa (Nat.le_refl _) (fun k h => by cases h)⟩
  case round =>
    obtain ⟨k, hk, rfl, rfl, hown, hb⟩ := hrel
    by_cases hkl : k < len
    · obtain ⟨b, off, rfl, hbl⟩ := hs.cell k hkl
      obtain ⟨c0, c1, c2⟩ := hs.cells b off rfl k hkl
      rw [← hb.cell (p := ⟨b, _, none⟩) hbl] at c0 c1 c2
      have HT : Hid (tcs (ts.take k) ++ tc (ts.getD k (0, 0, 0)) = tcs (ts.take (k + 1))) := take_tcs ts k (by have := hs.size; omega)
      have hs' : Hid (IsSaves w (some ⟨b, off, none⟩) len cap ts) := hs
      clear hs
      generalize ts.getD k (0, 0, 0) = t at *
      obtain ⟨t0, t1, t2⟩ := t
      simp only at c0 c1 c2
      go_wp2_with (at_builtin; refine wpList_append_fits _ rfl (.tmp 16) (.tmp 24) 45 rfl w.heap.size 66 i0 3 Yba.underlying45 hi hz1 w.heap.size k (len + 1) _ rfl ((hown.alloc _).alloc _) ⟨wr.heap.size + 1, 0, none⟩ 1 1 (tc (t0, t1, t2)) rfl rfl (three_cells _ (t0, t1, t2) _ (by simp) _) (tc_one _) (by omega) ?_; intro wb hownb hgrowb)
      rw [HT.out] at hownb
      go_roundw
      case rel => exact ⟨k + 1, by omega, by go_num, rfl, hownb, ((hb.alloc hb.size _).alloc (by have := hb.size; simp; omega) _).grown hgrowb (by have := hb.size; simp; omega) (fun k hk => by cases hk; exact Nat.le_refl _)⟩
      case measure => simp [intOf]; omega
    · obtain rfl : k = len := by omega
      have hs' : Hid (IsSaves w a k cap ts) := hs
      have hown' : Hid (wr.ownsRow w.heap.size 66 3 (.slice (some ⟨w.heap.size, 0, none⟩) k (k + 1)) k (tcs ts)) := by
        have e : ts.take k = ts := List.take_of_length_le (by have := hs.size; omega)
        rw [e] at hown; exact hown
      clear hs hown
      go_wp2
      go_ret
      exact ⟨rfl, hown'.out, hb⟩
end Go.Proofs.Ybulkbykw

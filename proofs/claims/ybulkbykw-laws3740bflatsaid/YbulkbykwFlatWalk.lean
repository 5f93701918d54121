import Derived.Test.YbulkbykwCommon
import Derived.Test.YbulkbykwRestore
namespace Go.Proofs.Ybulkbykw.flat
open Go.ChangeShapes Go.WideShapes Go.ChangeAt Go.RowKit
set_option linter.unusedVariables false

/-- What the loop reads: the old row, the written copy; nothing that was there has turned. -/
structure Facts (w wr : World) (g1 g2 n k : Nat) (xs : List Int) (e : Int) : Prop where
  orig : ∀ j, j < n → wr.cell? ⟨g1, j, none⟩ = some (.int .i64 (xs.getD j 0))
  cp : ∀ j, j < n → wr.cell? ⟨g2, j, none⟩ = some (.int .i64 (if j = k then e else xs.getD j 0))
  bel : Below w.heap.size w wr

theorem own_ints {w : World} {base g n cap : Nat} {xs : List Int} (h : w.ownsRow base 3 1 (.slice (some ⟨g, 0, none⟩) n cap) n (xs.map (Value.int .i64))) (hl : xs.length = n) (j : Nat) (hj : j < n) :
    w.cell? ⟨g, j, none⟩ = some (.int .i64 (xs.getD j 0)) := by
  rw [h.cellAt j (by omega)]
  simp [List.getD, List.getElem?_eq_getElem (show j < xs.length by omega)]

theorem facts_mk {w wd : World} {g1 g2 n k : Nat} {xs : List Int} {e : Int} (o1 o2 : Obj) (h1 : ∀ j, j < n → wd.cell? ⟨g1, j, none⟩ = some (.int .i64 (xs.getD j 0))) (h2 : ∀ j, j < n → wd.cell? ⟨g2, j, none⟩ = some (.int .i64 (xs.getD j 0)))
    (hn : g1 ≠ g2) (hg1 : g1 < wd.heap.size) (hg2 : g2 < wd.heap.size) (hw : w.heap.size ≤ g2) (hb : Below w.heap.size w wd) (hk : k < n) :
    Facts w (((wd.setCell ⟨g2, k, none⟩ (.int .i64 e)).alloc o1).alloc o2) g1 g2 n k xs e := by
  refine ⟨fun j hj => ?_, fun j hj => ?_, ((hb.setCell hw _).alloc (by simp; exact hb.size) _).alloc (by simp; have := hb.size; omega) _⟩
  · rw [World.cell?_alloc_lt _ _ _ (by simp; omega), World.cell?_alloc_lt _ _ _ (by simpa using hg1), World.cell?_setCell_other _ _ _ _ (fun h => hn (congrArg Addr.block h).symm)]; exact h1 j hj
  · rw [World.cell?_alloc_lt _ _ _ (by simp; omega), World.cell?_alloc_lt _ _ _ (by simpa using hg2)]
    by_cases hjk : j = k
    · subst hjk
      rw [World.cell?_setCell_same _ _ _ (h2 j hj)]
      simp
    · rw [World.cell?_setCell_other _ _ _ _ (fun h => hjk (congrArg Addr.off h).symm), h2 j hj, if_neg hjk]

set_option maxHeartbeats 1000000 in
theorem walk_some (a0 : Option Addr) (len0 cap0 : Nat) (z0 : List Int) (a1 : Int) (a2 : Int) (w : World) (w0 : IsRow .i64 w a0 len0 cap0 z0) (w1 : (Lit.int .u64 a1).wf = true) (w2 : (Lit.int .i64 a2).wf = true)
    (hlen : len0 ≤ 1024) (hpos : 0 < len0) :
    Calls Yba.prog 4 #[.slice a0 len0 cap0, .int .u64 a1, .int .i64 a2] w fun e w' => e = .returned (.bool true) ∧ Below w.heap.size w w' := by
  obtain ⟨i0, hi, hz0, hz1, hz2⟩ := info_parts info3
  have hw0 : Hid (IsRow .i64 w a0 len0 cap0 z0) := w0
  have hxl : Hid ((z0.take len0).length = len0) := row_len w0
  clear w0
  have e0 : ((len0 : Int) == 0) = false := by simp; omega
  have hb2 : i0.bytes * (len0 + 1) ≤ 281474976710656 := by rw [hz2]; omega
  have hb3 : len0 + 1 ≤ maxLen := by unfold maxLen; omega
  have hb2' : i0.bytes * len0 ≤ 281474976710656 := by rw [hz2]; omega
  have hb3' : len0 ≤ maxLen := by unfold maxLen; omega
  obtain ⟨ha0, ha1⟩ := bounds_u64 w1
  have hm0 : 0 ≤ a1 % (len0 : Int) := Int.emod_nonneg _ (by omega)
  have hm1 : a1 % (len0 : Int) < (len0 : Int) := Int.emod_lt_of_pos _ (by omega)
  go_enter Yba.func4, Yba.ntmps4
  go_wp2_with (first
    | (at_make; refine wpList_make_own _ rfl (.const (.int .i64 0)) (.tmp 18) 23 rfl w.heap.size 3 i0 (.int .i64 0) 1 Yba.underlying23 hi hz0 hz1 _ _ _ (len0 + 1) rfl rfl (by omega) hb2 hb3 (Nat.le_refl _) ?_; intro wa howna hgrowa; have hBa : Hid (Below w.heap.size w wa) := (Below.refl _ _).grown hgrowa (Nat.le_refl _) (fun k h => by cases h))
    | (at_builtin; refine wpList_append_fits_any _ rfl (.tmp 20) (.tmp 21) 23 rfl w.heap.size 3 i0 1 Yba.underlying23 hi hz1 w.heap.size 0 (len0 + 1) _ rfl howna _ len0 _ ((z0.take len0).map (Value.int .i64)) rfl (by simpa using hxl.out) (row_none hw0.out) (row_cells hw0.out hBa.out) (ints_oneCell _ _) (by omega) ?_; intro wb hownb hgrowb; simp only [Nat.zero_add, List.nil_append] at hownb; have hBb : Hid (Below w.heap.size w wb) := hBa.out.grown hgrowb hgrowa.size (fun k hk => by cases hk; exact Nat.le_refl _))
    | (at_make; refine wpList_make_full _ rfl (.tmp 30) (.tmp 30) 23 rfl (w.heap.size + 1) 3 i0 (.int .i64 0) 1 Yba.underlying23 hi hz0 hz1 _ _ _ _ len0 rfl rfl (by omega) (by omega) hb2' hb3' (by have := hownb.lt _ rfl; omega) ?_; intro wc hownc hgrowc)
    | (refine wpList_copy_full _ rfl (.tmp 32) (.tmp 33) 23 rfl (w.heap.size + 1) 3 i0 1 Yba.underlying23 hi hz1 wb.heap.size len0 _ rfl hownc ⟨w.heap.size, 0, none⟩ (len0 + 1) ((z0.take len0).map (Value.int .i64)) rfl (by simpa using hxl.out) (fun j u hu => hgrowc.cell (hownb.cells rfl j u hu) (by simp)) (ints_oneCell _ _) ?_; intro wd hownd hgrowd))
  obtain ⟨k, hk⟩ : ∃ k : Nat, a1 % (len0 : Int) = (k : Int) := ⟨_, (Int.toNat_of_nonneg hm0).symm⟩
  rw [hk] at hm1 hm0
  simp only [hk]
  clear hk
  have hgl : wb.heap.size < wd.heap.size := (hownd.lt _ rfl).2
  have hO : ∀ j, j < len0 → wd.cell? ⟨w.heap.size, j, none⟩ = some (.int .i64 ((z0.take len0).getD j 0)) := own_ints ((hownb.kept hgrowc (.inr (by simp [Value.ownBlock]))).kept hgrowd (.inr (by have h : w.heap.size < wb.heap.size := (hownb.lt _ rfl).2; simp [Value.ownBlock]; omega))) hxl.out
  have hC : ∀ j, j < len0 → wd.cell? ⟨wb.heap.size, j, none⟩ = some (.int .i64 ((z0.take len0).getD j 0)) := own_ints hownd hxl.out
  have hcell := hC k (by omega)
  have hfro : wd.frozen? ⟨wb.heap.size, k, none⟩ = false := hownd.frozenAt k
  have hbs : w.heap.size < wb.heap.size := (hownb.lt _ rfl).2
  have hBd : Below w.heap.size w wd := (hBb.out.grown hgrowc hBb.out.size (fun k h => by cases h)).grown hgrowd (by have := hgrowc.size; omega) (fun k hk => by cases hk; omega)
  have HF := fun o1 o2 => facts_mk (e := a2) o1 o2 hO hC (by omega) (by omega) (by omega) (by omega) hBd (show k < len0 by omega)
  have HF' : Hid (∀ o1 o2, Facts w (((wd.setCell ⟨wb.heap.size, k, none⟩ (.int .i64 a2)).alloc o1).alloc o2) w.heap.size wb.heap.size len0 k (z0.take len0) a2) := HF
  clear HF hO hC
  refine (restore_flat _ _ _ _ k _ _ ((z0.take len0).getD k 0) _ rfl (by omega) (by omega) ?_ ?_).mono ?_
  · rw [World.cell?_alloc_lt _ _ _ (by simp; omega), World.cell?_alloc_lt _ _ _ hgl]; exact hcell
  · rw [World.frozen?_alloc_past _ _ _ (by simp; omega), World.frozen?_alloc_past _ _ _ hgl]; exact hfro
  rintro e w' ⟨rfl, rfl⟩
  go_wp2
  go_loopw [78] (fun t wr => ∃ j : Nat, j ≤ len0 ∧ t = .int .i64 j ∧ Facts w wr w.heap.size wb.heap.size len0 k (z0.take len0) a2) (fun t _ => len0 - (intOf t).toNat)
  case atStart => exact ⟨0, Nat.zero_le _, rfl, HF'.out _ _⟩
  case round =>
    clear HF'
    obtain ⟨j, hj, rfl, F⟩ := hrel
    by_cases hjl : j < len0
    · have f1 := F.orig j hjl
      have f2 := F.cp j hjl
      by_cases hjk : j = k
      · subst hjk
        simp only [if_true] at f2
        go_wp2
        go_roundw
        case rel => exact ⟨j + 1, by omega, by go_num, F⟩
        case measure => simp [intOf]; omega
      · rw [if_neg hjk] at f2
        go_wp2
        go_roundw
        case rel => exact ⟨j + 1, by omega, by go_num, F⟩
        case measure => simp [intOf]; omega
    · go_wp2
      go_ret
      exact ⟨rfl, F.bel⟩
theorem one_cell (w : World) (v : Value) (t : TypeId) (h1 : v.oneCell' = true) : ∀ j u, [v][j]? = some u → (w.alloc (.cells #[v] t)).cell? ((⟨w.heap.size, 0, none⟩ : Addr).add j) = some u := by
  intro j u hu
  match j, hu with
  | 0, hu => simp at hu; subst hu; simp [Addr.add]

set_option maxHeartbeats 1000000 in
theorem walk_zero (a0 : Option Addr) (cap0 : Nat) (z0 : List Int) (a1 : Int) (a2 : Int) (w : World) (w0 : IsRow .i64 w a0 0 cap0 z0) (w1 : (Lit.int .u64 a1).wf = true) (w2 : (Lit.int .i64 a2).wf = true) :
    Calls Yba.prog 4 #[.slice a0 0 cap0, .int .u64 a1, .int .i64 a2] w fun e w' => e = .returned (.bool true) ∧ Below w.heap.size w w' := by
  obtain ⟨i0, hi, hz0, hz1, hz2⟩ := info_parts info3
  have hw0 : Hid (IsRow .i64 w a0 0 cap0 z0) := w0
  clear w0
  have hb2 : i0.bytes * 1 ≤ 281474976710656 := by rw [hz2]; omega
  have hb3 : 1 ≤ maxLen := by unfold maxLen; omega
  obtain ⟨ha0, ha1⟩ := bounds_u64 w1
  go_enter Yba.func4, Yba.ntmps4
  go_wp2_with (first
    | (at_make; refine wpList_make_own _ rfl (.const (.int .i64 0)) (.tmp 18) 23 rfl w.heap.size 3 i0 (.int .i64 0) 1 Yba.underlying23 hi hz0 hz1 _ _ _ 1 rfl rfl (by omega) hb2 hb3 (Nat.le_refl _) ?_; intro wa howna hgrowa; have hBa : Hid (Below w.heap.size w wa) := (Below.refl _ _).grown hgrowa (Nat.le_refl _) (fun k h => by cases h))
    | (at_builtin; refine wpList_append_fits_any _ rfl (.tmp 20) (.tmp 21) 23 rfl w.heap.size 3 i0 1 Yba.underlying23 hi hz1 w.heap.size 0 1 _ rfl howna _ 0 _ [] rfl (by simp) (row_none hw0.out) (fun ad h j u hu => by simp at hu) (by simp) (by omega) ?_; intro wb hownb hgrowb; simp only [Nat.zero_add, List.nil_append] at hownb; have hBb : Hid (Below w.heap.size w wb) := hBa.out.grown hgrowb hgrowa.size (fun k hk => by cases hk; exact Nat.le_refl _))
    | (at_builtin; refine wpList_append_fits _ rfl (.tmp 26) (.tmp 27) 23 rfl w.heap.size 3 i0 1 Yba.underlying23 hi hz1 w.heap.size 0 1 _ rfl (hownb.alloc _) ⟨wb.heap.size, 0, none⟩ 1 1 [.int .i64 0] rfl rfl (one_cell wb _ 3 rfl) (by simp [Value.oneCell']) (by omega) ?_; intro wp hownp hgrowp; simp only [Nat.zero_add, List.nil_append] at hownp; have hBp : Hid (Below w.heap.size w wp) := (hBb.out.alloc hBb.out.size _).grown hgrowp (by have := hBb.out.size; simp; omega) (fun k hk => by cases hk; exact Nat.le_refl _))
    | (at_make; refine wpList_make_full _ rfl (.tmp 30) (.tmp 30) 23 rfl (w.heap.size + 1) 3 i0 (.int .i64 0) 1 Yba.underlying23 hi hz0 hz1 _ _ _ _ 1 rfl rfl (by omega) (by omega) hb2 hb3 (by have := hownp.lt _ rfl; omega) ?_; intro wc hownc hgrowc)
    | (refine wpList_copy_full _ rfl (.tmp 32) (.tmp 33) 23 rfl (w.heap.size + 1) 3 i0 1 Yba.underlying23 hi hz1 wp.heap.size 1 _ rfl hownc ⟨w.heap.size, 0, none⟩ 1 [.int .i64 0] rfl (by simp) (fun j u hu => hgrowc.cell (hownp.cells rfl j u hu) (by simp)) (by simp [Value.oneCell']) ?_; intro wd hownd hgrowd))
  have hgl : wp.heap.size < wd.heap.size := (hownd.lt _ rfl).2
  have hO : ∀ j, j < 1 → wd.cell? ⟨w.heap.size, j, none⟩ = some (.int .i64 (([0] : List Int).getD j 0)) := own_ints ((hownp.kept hgrowc (.inr (by simp [Value.ownBlock]))).kept hgrowd (.inr (by have h : w.heap.size < wp.heap.size := (hownp.lt _ rfl).2; simp [Value.ownBlock]; omega))) rfl
  have hC : ∀ j, j < 1 → wd.cell? ⟨wp.heap.size, j, none⟩ = some (.int .i64 (([0] : List Int).getD j 0)) := own_ints hownd rfl
  have hcell := hC 0 (by omega)
  have hfro : wd.frozen? ⟨wp.heap.size, 0, none⟩ = false := hownd.frozenAt 0
  have hbs : w.heap.size < wp.heap.size := (hownp.lt _ rfl).2
  have hBd : Below w.heap.size w wd := (hBp.out.grown hgrowc hBp.out.size (fun k h => by cases h)).grown hgrowd (by have := hgrowc.size; omega) (fun k hk => by cases hk; omega)
  have HF' : Hid (∀ o1 o2, Facts w (((wd.setCell ⟨wp.heap.size, 0, none⟩ (.int .i64 a2)).alloc o1).alloc o2) w.heap.size wp.heap.size 1 0 [0] a2) := fun o1 o2 => facts_mk (e := a2) o1 o2 hO hC (by omega) (by omega) (by omega) (by omega) hBd (by omega)
  clear hO hC
  refine (restore_flat _ _ _ _ 0 _ _ (([0] : List Int).getD 0 0) _ rfl (by omega) (by omega) ?_ ?_).mono ?_
  · rw [World.cell?_alloc_lt _ _ _ (by simp; omega), World.cell?_alloc_lt _ _ _ hgl]; exact hcell
  · rw [World.frozen?_alloc_past _ _ _ (by simp; omega), World.frozen?_alloc_past _ _ _ hgl]; exact hfro
  rintro e w' ⟨rfl, rfl⟩
  go_wp2
  go_loopw [78] (fun t wr => ∃ j : Nat, j ≤ 1 ∧ t = .int .i64 j ∧ Facts w wr w.heap.size wp.heap.size 1 0 [0] a2) (fun t _ => 1 - (intOf t).toNat)
  case atStart => exact ⟨0, Nat.zero_le _, rfl, HF'.out _ _⟩
  case round =>
    clear HF'
    obtain ⟨j, hj, rfl, F⟩ := hrel
    by_cases hjl : j < 1
    · obtain rfl : j = 0 := by omega
      have f1 := F.orig 0 hjl
      have f2 := F.cp 0 hjl
      simp only [if_true] at f2
      go_wp2
      go_roundw
      case rel => exact ⟨1, by omega, by go_num, F⟩
      case measure => simp [intOf]
    · obtain rfl : j = 1 := by omega
      go_wp2
      go_ret
      exact ⟨rfl, F.bel⟩

theorem walk (a0 : Option Addr) (len0 cap0 : Nat) (z0 : List Int) (a1 : Int) (a2 : Int) (w : World) (w0 : IsRow .i64 w a0 len0 cap0 z0) (w1 : (Lit.int .u64 a1).wf = true) (w2 : (Lit.int .i64 a2).wf = true) :
    Calls Yba.prog 4 #[.slice a0 len0 cap0, .int .u64 a1, .int .i64 a2] w fun e w' => e = .returned (.bool true) ∧ Below w.heap.size w w' := by
  by_cases h0 : len0 = 0
  · subst h0
    exact walk_zero a0 cap0 z0 a1 a2 w w0 w1 w2
  · by_cases h1 : len0 ≤ 1024
    · exact walk_some a0 len0 cap0 z0 a1 a2 w w0 w1 w2 h1 (by omega)
    · clear w0
      have h2 : (1024 : Int) < (len0 : Int) := by omega
      go_enter Yba.func4, Yba.ntmps4
      go_wp2
      go_ret
      exact ⟨rfl, Below.refl _ _⟩
end Go.Proofs.Ybulkbykw.flat

/- 'LawS3740ATrack': the walk, out of the contracts of NewMachine, track and the leaf. -/
import Derived.Test.YbulkbykwTrack
import Derived.Test.YbulkbykwNewM
import Derived.Test.YbulkbykwLeaf
import Derived.Test.YbulkbykwSharedParts
import Derived.Test.YbulkbykwFin
import Derived.Lib.Builder
import Derived.BigQuiet
import Derived.Deep.QuietTactic
namespace Go.Proofs.Ybulkbykw
open Go.ChangeShapes Go.WideShapes Go.ChangeAt Go.RowKit
set_option linter.unusedVariables false

theorem info101 : (Yba.prog.info? 101).map (fun i => (i.zero, i.size, i.bytes)) = some (some (.agg #[.int .u8 0, .int .i64 0, .int .i64 0, .slice none 0 0, .bool false, .int .u8 0, .int .i64 0]), 7, 64) := by kernel_rfl
theorem info58 : (Yba.prog.info? 58).map (fun i => (i.zero, i.size, i.bytes)) = some (some (.agg #[.int .i64 0, .int .i64 0, .int .i64 0]), 3, 24) := by kernel_rfl
theorem info56 : (Yba.prog.info? 56).map (fun i => (i.zero, i.size, i.bytes)) = some (some (.agg #[.int .i64 0, .int .i64 0]), 2, 16) := by kernel_rfl

/-- The machine between the two tracks: below M nothing has turned since w; what the law reads at the end stands. -/
structure Run (M p ni : Nat) (w wr : World) (f : Nat → Value) (n : Nat → Nat) (xs : Nat → List Value) : Prop where
  ms : MS M wr f n xs
  bel : Below w.heap.size w wr
  hM : w.heap.size ≤ M
  e0 : f 0 = .pointer (some ⟨p, 0, none⟩)
  e1 : f 1 = .bool false
  e2 : f 2 = .pointer (some ⟨M, 4, none⟩)
  e3 : f 3 = .pointer (some ⟨M, 9, none⟩)
  e4 : ∃ a c, f 4 = .slice a ni c
  e9 : ∃ a c, f 9 = .slice a ni c
  ti : TI f n xs

theorem Fresh.ti {M p ni : Nat} {w : World} {f : Nat → Value} {n : Nat → Nat} {xs : Nat → List Value} (h : Fresh M p ni w f n xs) : TI f n xs :=
  ⟨h.e31, h.e34, h.e35, by rw [(h.rows 22 rfl).2, (h.rows 22 rfl).1]; rfl, by rw [(h.rows 22 rfl).1]; omega⟩

theorem run_tracked {M p ni : Nat} {w wr wr' : World} {f f' : Nat → Value} {n' : Nat → Nat} {xs' : Nat → List Value} {N : Int} (hb : Below w.heap.size w wr) (hM : w.heap.size ≤ M)
    (e0 : f 0 = .pointer (some ⟨p, 0, none⟩)) (e1 : f 1 = .bool false) (e2 : f 2 = .pointer (some ⟨M, 4, none⟩)) (e3 : f 3 = .pointer (some ⟨M, 9, none⟩)) (e4 : ∃ a c, f 4 = .slice a ni c) (e9 : ∃ a c, f 9 = .slice a ni c)
    (T : TrackedM M wr wr' f N f' n' xs') : Run M p ni w wr' f' n' xs' :=
  ⟨T.ms, hb.trans (T.bel.mono hM), hM, by rw [T.low 0 (by omega) rfl]; exact e0, by rw [T.low 1 (by omega) rfl]; exact e1, by rw [T.low 2 (by omega) rfl]; exact e2, by rw [T.low 3 (by omega) rfl]; exact e3, by rw [T.low 4 (by omega) rfl]; exact e4, by rw [T.low 9 (by omega) rfl]; exact e9, T.ti⟩

/-- One more element on a row that is no part of what stands: '.. = append(.., ..)'. -/
theorem Run.append {M p ni : Nat} {w wr w1 : World} {f : Nat → Value} {n : Nat → Nat} {xs : Nat → List Value} (h : Run M p ni w wr f n xs) {k : Nat} (hk : k < 37) (he : emptied k = true) (hr : isRow k = true) {v : Value} {m : Nat} {ys : List Value} (o : Obj)
    (hg : (wr.alloc o).grownBy w1 (f k).ownBlock) (hown : w1.ownsRow (M + 1) (ety k) (esz k) v m ys) (hat : v.ownBlock = (f k).ownBlock ∨ v.ownBlock = some (wr.alloc o).heap.size) :
    Run M p ni w (w1.setCell ⟨M, k, none⟩ v) (upd f k v) (upd n k m) (upd xs k ys) := by
  have hl := h.ms.lt
  have q : ∀ j, emptied j = false → j ≠ k := fun j hj e => by rw [e, he] at hj; cases hj
  refine ⟨(h.ms.alloc o).append hk hr hg hown (Nat.le_refl _) hat, ?_, h.hM, by rw [upd_other _ _ (q 0 rfl)]; exact h.e0, by rw [upd_other _ _ (q 1 rfl)]; exact h.e1, by rw [upd_other _ _ (q 2 rfl)]; exact h.e2, by rw [upd_other _ _ (q 3 rfl)]; exact h.e3, by rw [upd_other _ _ (q 4 rfl)]; exact h.e4, by rw [upd_other _ _ (q 9 rfl)]; exact h.e9,
    ⟨by rw [upd_other _ _ (q 31 rfl)]; exact h.ti.e31, by rw [upd_other _ _ (q 34 rfl)]; exact h.ti.e34, by rw [upd_other _ _ (q 35 rfl)]; exact h.ti.e35, by rw [upd_other _ _ (q 22 rfl), upd_other _ _ (q 22 rfl)]; exact h.ti.u22, by rw [upd_other _ _ (q 22 rfl)]; exact h.ti.b22⟩⟩
  have b1 : Below M wr w1 := ((Below.refl M wr).alloc (by omega) o).trans ((h.ms.alloc o).below_grown hr hg)
  exact (h.bel.trans (b1.mono h.hM)).setCell (by simp; exact h.hM) _

theorem Run.alloc {M p ni : Nat} {w wr : World} {f : Nat → Value} {n : Nat → Nat} {xs : Nat → List Value} (h : Run M p ni w wr f n xs) (o : Obj) : Run M p ni w (wr.alloc o) f n xs :=
  ⟨h.ms.alloc o, h.bel.alloc h.bel.size o, h.hM, h.e0, h.e1, h.e2, h.e3, h.e4, h.e9, h.ti⟩
theorem Run.draw {M p ni : Nat} {w wr : World} {f : Nat → Value} {n : Nat → Nat} {xs : Nat → List Value} (h : Run M p ni w wr f n xs) : Run M p ni w wr.drew f n xs :=
  ⟨h.ms.drew, h.bel.drew, h.hM, h.e0, h.e1, h.e2, h.e3, h.e4, h.e9, h.ti⟩
theorem Run.draws {M p ni : Nat} {w wr : World} {f : Nat → Value} {n : Nat → Nat} {xs : Nat → List Value} (h : Run M p ni w wr f n xs) (q : Nat) : Run M p ni w (wr.drewN q) f n xs :=
  ⟨h.ms.draws q, ⟨h.bel.os, h.bel.tape, h.bel.output, h.bel.size, h.bel.block⟩, h.hM, h.e0, h.e1, h.e2, h.e3, h.e4, h.e9, h.ti⟩

/-- The slice of the two queues lies in a block of its own kind: no append touches it. -/
def QB (qb M : Nat) (w : World) : Prop := w.heap[qb]? = some (.cells #[.pointer (some ⟨M, 4, none⟩), .pointer (some ⟨M, 9, none⟩)] 34 (0, 0))
theorem QB.cells {qb M : Nat} {w : World} (h : QB qb M w) : w.cell? ⟨qb, 0, none⟩ = some (.pointer (some ⟨M, 4, none⟩)) ∧ w.cell? ⟨qb, 1, none⟩ = some (.pointer (some ⟨M, 9, none⟩)) :=
  ⟨by rw [cell_of_row w qb 0 _ 34 (0, 0) h]; rfl, by rw [cell_of_row w qb 1 _ 34 (0, 0) h]; rfl⟩
theorem QB.draw {qb M : Nat} {w : World} (h : QB qb M w) : QB qb M w.drew := h
theorem ety_ne (k : Nat) : ety k ≠ 34 := by
  unfold ety
  repeat' split
  all_goals decide
theorem QB.append {qb M k : Nat} {w w1 : World} {f : Nat → Value} {n : Nat → Nat} {xs : Nat → List Value} (h : QB qb M w) (hM : M < qb) (ms : MS M w f n xs) (hr : isRow k = true) (o : Obj) (hg : (w.alloc o).grownBy w1 (f k).ownBlock) (v : Value) : QB qb M (w1.setCell ⟨M, k, none⟩ v) := by
  have hlt : qb < w.heap.size := (Array.getElem?_eq_some_iff.1 h).1
  have hne : some qb ≠ (f k).ownBlock := fun e => by
    rcases (ms.rows k hr).2 with ⟨h1, _⟩ | ⟨g, cap, cur, hv, _, hgg, _⟩
    · rw [h1] at e; cases e
    · rw [hv] at e
      have e' : qb = g := Option.some.inj e
      subst e'
      unfold QB at h
      rw [h] at hgg
      have := Option.some.inj hgg
      simp only [Obj.cells.injEq] at this
      exact ety_ne k this.2.1.symm
  unfold QB
  rw [heap_setCell_other _ _ _ _ (by simp; omega), hg.block qb (by simp; omega) hne, Below.heap_alloc w o qb hlt]
  exact h

theorem ptr34 (W : World) (a : Addr) : (binOp .neq 34 (.pointer (some a)) (.pointer (some a))).run Yba.prog W = .ok (.bool false) W := by
  obtain ⟨i, hi⟩ := Option.isSome_iff_exists.1 (show (Yba.prog.info? 42).isSome = true by kernel_rfl)
  exact Lib.run_neq_ptr_same W a Yba.underlying34 hi
theorem ptr24 (W : World) (a : Addr) : (binOp .neq 24 (.pointer (some a)) (.pointer (some a))).run Yba.prog W = .ok (.bool false) W := by
  obtain ⟨i, hi⟩ := Option.isSome_iff_exists.1 (show (Yba.prog.info? 29).isSome = true by kernel_rfl)
  exact Lib.run_neq_ptr_same W a Yba.underlying24 hi

theorem cells3' (w : World) (a b c : Value) (n : Nat) (hn : n = w.heap.size) (e : TypeId) : ∀ j u, [a, b, c][j]? = some u → (w.alloc (.cells #[a, b, c] e)).cell? ((⟨n, 0, none⟩ : Addr).add j) = some u := by
  subst hn
  intro j u hu
  match j, hu with
  | 0, hu => simp at hu; subst hu; simp [Addr.add]
  | 1, hu => simp at hu; subst hu; simp [Addr.add]
  | 2, hu => simp at hu; subst hu; simp [Addr.add]
theorem cells2' (w : World) (a b : Value) (n : Nat) (hn : n = w.heap.size) (e : TypeId) : ∀ j u, [a, b][j]? = some u → (w.alloc (.cells #[a, b] e)).cell? ((⟨n, 0, none⟩ : Addr).add j) = some u := by
  subst hn
  intro j u hu
  match j, hu with
  | 0, hu => simp at hu; subst hu; simp [Addr.add]
  | 1, hu => simp at hu; subst hu; simp [Addr.add]

set_option maxRecDepth 100000 in
set_option maxHeartbeats 4000000 in
theorem walk_in (hR : ResetSaid) (a0 a1 N : Int) (a3 : Option Addr) (len3 cap3 : Nat) (z3 : List Int) (a4 : Option Addr) (len4 cap4 : Nat) (z4 : List Int) (w : World) (w0 : (Lit.int .u8 a0).wf = true) (w1 : (Lit.int .u16 a1).wf = true) (w3 : IsRow .i64 w a3 len3 cap3 z3) (w4 : IsRow .i64 w a4 len4 cap4 z4)
    (hN : -2048 ≤ N) (hN' : N ≤ 2048) (h3 : len3 ≤ 1024) (h4 : len4 ≤ 1024) :
    Calls Yba.prog 3 #[.int .u8 a0, .int .u16 a1, .int .i64 N, .slice a3 len3 cap3, .slice a4 len4 cap4] w fun e w' => e = .returned (.bool true) ∧ Below w.heap.size w w' := by
  obtain ⟨i0, hi, hz0, hz1, hz2⟩ := info_parts info101
  obtain ⟨hu0, hu1⟩ := bounds_u8 w0
  obtain ⟨hv0, hv1⟩ := bounds_u16 w1
  have hw3 : Hid (IsRow .i64 w a3 len3 cap3 z3) := w3
  have hw4 : Hid (IsRow .i64 w a4 len4 cap4 z4) := w4
  clear w0 w1 w3 w4
  obtain ⟨ni, hni⟩ : ∃ ni : Nat, a0 % 16 = (ni : Int) := ⟨(a0 % 16).toNat, by omega⟩
  have hni15 : ni ≤ 15 := by omega
  have hb2 : i0.bytes * ni ≤ 281474976710656 := by rw [hz2]; omega
  have hb3 : ni ≤ maxLen := by unfold maxLen; omega
  have hm0 : 0 ≤ a1 % 600 := by omega
  have hm1 : a1 % 600 < 600 := by omega
  have hd1 : decide (2048 < N) = false := by simp; omega
  have hd2 : decide (N < -2048) = false := by simp; omega
  have hd3 : decide (1024 < (len3 : Int)) = false := by simp; omega
  have hd4 : decide (1024 < (len4 : Int)) = false := by simp; omega
  go_enter Yba.func3, Yba.ntmps3
  go_wp2_with (at_make; refine wpList_make_full _ rfl (.tmp 47) (.tmp 47) 25 rfl w.heap.size 101 i0 _ 7 Yba.underlying25 hi hz0 hz1 _ _ _ _ ni rfl rfl (by omega) (by omega) hb2 hb3 (Nat.le_refl _) ?_; intro wa howna hgrowa)
  clear hni
  have hBa : Below w.heap.size w wa := (Below.refl _ _).grown hgrowa (Nat.le_refl _) (fun k h => by cases h)
  clear howna hgrowa hb2 hb3
  obtain ⟨M, hMd⟩ : ∃ M, M = wa.heap.size + 1 := ⟨_, rfl⟩
  have HN : Hid (∀ a c, Calls Yba.prog 7 #[.pointer (some ⟨wa.heap.size, 0, none⟩), .bool false] (wa.alloc (.cells #[.slice a ni c, .int .i64 0, .int .u8 0, .bool false, .slice none 0 0] 29)) fun e w' => e = .returned (.pointer (some ⟨M, 0, none⟩)) ∧ Below w.heap.size w w' ∧ w.heap.size ≤ M ∧ ∃ f n xs, Fresh M wa.heap.size ni w' f n xs) := by
    intro a c
    have hs := hBa.size
    refine (newm_any wa.heap.size ni c a (wa.alloc (.cells #[.slice a ni c, .int .i64 0, .int .u8 0, .bool false, .slice none 0 0] 29)) hni15 (by rw [World.cell?_alloc_new]; rfl) (by simp)).mono ?_
    rintro e w' ⟨rfl, hb, f, n, xs, F⟩
    have hsz : (wa.alloc (.cells #[.slice a ni c, .int .i64 0, .int .u8 0, .bool false, .slice none 0 0] 29)).heap.size = M := by rw [hMd]; simp
    rw [hsz] at hb F ⊢
    exact ⟨rfl, (hBa.alloc hs _).trans (hb.mono (by omega)), by omega, f, n, xs, F⟩
  have hpM : wa.heap.size < M := by omega
  clear hMd
  refine (HN.out _ _).mono ?_
  rintro e wM ⟨rfl, hBM, hMw, f, n, xs, F⟩
  clear HN
  obtain ⟨p, hp⟩ : ∃ p, p = wa.heap.size := ⟨_, rfl⟩
  rw [← hp] at F hpM
  simp only [← hp]
  clear hp hBa
  have HT : Hid (Calls Yba.prog 8 #[.pointer (some ⟨M, 0, none⟩), .int .i64 (a1 % 600)] wM fun e w' => e = .returned (.tuple #[]) ∧ ∃ f' n' xs', Run M p ni w w' f' n' xs' ∧ n' 14 = 0 ∧ n' 6 = 0 ∧ n' 7 = 0 ∧ n' 8 = 0 ∧ n' 11 = 0 ∧ n' 12 = 0 ∧ n' 13 = 0) :=
    (track_any hR M wM f n xs (a1 % 600) F.ms F.ti F.e2 F.e3 (by omega) (by omega)).mono fun e w' ⟨he, f', n', xs', T⟩ => ⟨he, f', n', xs', run_tracked hBM hMw F.e0 F.e1 F.e2 F.e3 F.e4 F.e9 T, T.zero 14 rfl, T.zero 6 rfl, T.zero 7 rfl, T.zero 8 rfl, T.zero 11 rfl, T.zero 12 rfl, T.zero 13 rfl⟩
  clear F hBM
  go_wp2_with fail
  refine HT.out.mono ?_
  rintro e wt ⟨rfl, f1, n1, xs1, R1, z14, z6, z7, z8, z11, z12, z13⟩
  have HZ : Hid (n1 14 = 0 ∧ n1 6 = 0 ∧ n1 7 = 0 ∧ n1 8 = 0 ∧ n1 11 = 0 ∧ n1 12 = 0 ∧ n1 13 = 0) := ⟨z14, z6, z7, z8, z11, z12, z13⟩
  clear HT z14 z6 z7 z8 z11 z12 z13
  go_wp2
  obtain ⟨j0, hj, hy0, hy1, hy2⟩ := info_parts info58
  obtain ⟨t0, ht, hx0, hx1, hx2⟩ := info_parts info56
  obtain ⟨n0, hn, hq0, hq1, hq2⟩ := info_parts info3
  obtain ⟨v0, hv, hr0, hr1, hr2⟩ := info_parts info44
  go_loopw [60] (fun i wr => ∃ k : Nat, k ≤ len3 ∧ i = .int .i64 k ∧ ∃ f' n' xs', Run M p ni w wr f' n' xs' ∧ n' 14 = k ∧ n' 6 = 0 ∧ n' 7 = 0 ∧ n' 8 = 0 ∧ n' 11 = 0 ∧ n' 12 = 0 ∧ n' 13 = 0) (fun i _ => len3 - (intOf i).toNat)
  case atStart => exact ⟨0, by omega, rfl, f1, n1, xs1, R1, HZ.out⟩
  case round =>
    clear R1 HZ
    obtain ⟨k, hk, rfl, f2, n2, xs2, R2, z14, z6, z7, z8, z11, z12, z13⟩ := hrel
    have HZ : Hid (n2 14 = k ∧ n2 6 = 0 ∧ n2 7 = 0 ∧ n2 8 = 0 ∧ n2 11 = 0 ∧ n2 12 = 0 ∧ n2 13 = 0) := ⟨z14, z6, z7, z8, z11, z12, z13⟩
    clear z14 z6 z7 z8 z11 z12 z13
    by_cases hk3 : k < len3
    · obtain ⟨b, off, rfl, hbl, hcs⟩ := row_at hw3.out hk3
      have cx := hcs k hk3
      rw [← R2.bel.cell (p := ⟨b, _, none⟩) hbl] at cx
      clear hcs hw3 hw4
      generalize (z3.take len3).getD k 0 = v at *
      obtain ⟨a14, k14, e14, _, _, _, _⟩ := R2.ms.slice (k := 14) rfl
      rw [HZ.out.1] at e14
      have c14 := R2.ms.cell 14 (by omega); rw [e14] at c14
      have E14 : Hid (f2 14 = .slice a14 k k14) := e14
      clear e14
      have fz := R2.ms.fro
      have hm : k + 1 ≤ maxLen := by unfold maxLen; omega
      go_wp2_with (at_builtin; refine wpList_append_own_at _ rfl (.tmp 68) (.tmp 74) 33 rfl (M + 1) 58 j0 _ 3 24 Yba.underlying33 hj hy0 hy1 hy2 rfl (by omega) (.slice a14 k k14) k (xs2 14) rfl (by have := (R2.ms.rows 14 rfl).alloc (.cells #[.int .i64 v, .int .i64 v, .int .i64 v] 58); rw [E14.out, HZ.out.1] at this; exact this) ⟨wr.heap.size, 0, none⟩ 1 1 [.int .i64 v, .int .i64 v, .int .i64 v] rfl rfl (cells3' _ _ _ _ _ rfl _) (by simp [Value.oneCell']) hm (by omega) (by have := R2.ms.lt; simp; omega) ?_; intro v1 wx hown1 hgrow1 _ hat1; obtain ⟨ao1, q1, rfl⟩ := own_shape hown1; rw [← E14.out] at hgrow1 hat1; have cg := (R2.ms.alloc _).cells_grown (k := 14) rfl hgrow1; have cz := cg.1 14 (by omega); have fz1 := cg.2; rw [E14.out] at cz)
      go_roundw
      case rel =>
        refine ⟨k + 1, by omega, by go_num, _, _, _, R2.append (k := 14) (by omega) rfl rfl _ hgrow1 hown1 hat1, upd_same _ _ _, ?_⟩
        have z := HZ.out.2
        rw [upd_other _ _ (by omega), upd_other _ _ (by omega), upd_other _ _ (by omega), upd_other _ _ (by omega), upd_other _ _ (by omega), upd_other _ _ (by omega)]
        exact z
      case measure => simp [intOf]; omega
    · have c2 := R2.ms.cell 2 (by omega); rw [R2.e2] at c2
      have c3 := R2.ms.cell 3 (by omega); rw [R2.e3] at c3
      obtain ⟨wr1, hwr1⟩ : ∃ wr1, wr1 = wr := ⟨_, rfl⟩
      subst hwr1
      go_wp2
      go_region
      go_wp2
      have hqM : M < wr1.heap.size := R2.ms.lt
      have RQ : Hid (Run M p ni w (wr1.alloc (.cells #[.pointer (some ⟨M, 4, none⟩), .pointer (some ⟨M, 9, none⟩)] 34)).drew f2 n2 xs2) := (R2.alloc _).draw
      have HQ0 : Hid (QB wr1.heap.size M (wr1.alloc (.cells #[.pointer (some ⟨M, 4, none⟩), .pointer (some ⟨M, 9, none⟩)] 34)).drew) := heap_alloc_new wr1 _
      clear c2 c3 R2
      go_loopw [89] (fun i wr => ∃ k : Nat, k ≤ 2 ∧ i = .int .i64 k ∧ ∃ f' n' xs', Run M p ni w wr f' n' xs' ∧ QB wr1.heap.size M wr ∧ (k = 0 → n' 6 = 0 ∧ n' 7 = 0 ∧ n' 8 = 0) ∧ (k ≤ 1 → n' 11 = 0 ∧ n' 12 = 0 ∧ n' 13 = 0)) (fun i _ => 2 - (intOf i).toNat)
      case atStart => exact ⟨0, by omega, rfl, f2, n2, xs2, RQ.out, HQ0.out, fun _ => ⟨HZ.out.2.1, HZ.out.2.2.1, HZ.out.2.2.2.1⟩, fun _ => HZ.out.2.2.2.2⟩
      case round =>
        clear RQ HQ0 HZ
        obtain ⟨k', hk', rfl, f3, n3, xs3, R3, Q, y0, y1⟩ := hrel
        have HQ : Hid ((k' = 0 → n3 6 = 0 ∧ n3 7 = 0 ∧ n3 8 = 0) ∧ (k' ≤ 1 → n3 11 = 0 ∧ n3 12 = 0 ∧ n3 13 = 0)) := ⟨y0, y1⟩
        clear y0 y1
        rcases (show k' = 0 ∨ k' = 1 ∨ k' = 2 by omega) with rfl | rfl | rfl
        · have q := Q.cells.1
          go_wp2
          go_loopw [95] (fun i wr => ∃ c : Nat, c ≤ len4 ∧ i = .int .i64 c ∧ ∃ f' n' xs', Run M p ni w wr f' n' xs' ∧ QB wr1.heap.size M wr ∧ n' 6 = c ∧ n' 7 = c ∧ n' 8 = c ∧ n' 11 = 0 ∧ n' 12 = 0 ∧ n' 13 = 0) (fun i _ => len4 - (intOf i).toNat)
          case atStart => exact ⟨0, by omega, rfl, f3, n3, xs3, R3, Q, (HQ.out.1 (by simp)).1, (HQ.out.1 (by simp)).2.1, (HQ.out.1 (by simp)).2.2, HQ.out.2 (by omega)⟩
          case round =>
            clear R3 Q q HQ
            obtain ⟨c, hc, rfl, f4, n4, xs4, R4, Q, ya, yb, yd, yr⟩ := hrel
            have HY : Hid (n4 6 = c ∧ n4 7 = c ∧ n4 8 = c ∧ n4 11 = 0 ∧ n4 12 = 0 ∧ n4 13 = 0) := ⟨ya, yb, yd, yr⟩
            clear ya yb yd yr
            by_cases hc4 : c < len4
            · obtain ⟨b, off, rfl, hbl, hcs⟩ := row_at hw4.out hc4
              have cx := hcs c hc4
              rw [← R4.bel.cell (p := ⟨b, _, none⟩) hbl] at cx
              clear hcs hw3 hw4
              generalize (z4.take len4).getD c 0 = v at *
              obtain ⟨a6, k6, e6, _, _, _, _⟩ := R4.ms.slice (k := 6) rfl
              obtain ⟨a7, k7, e7, _, _, _, _⟩ := R4.ms.slice (k := 7) rfl
              obtain ⟨a8, k8, e8, _, _, _, _⟩ := R4.ms.slice (k := 8) rfl
              rw [HY.out.1] at e6
              rw [HY.out.2.1] at e7
              rw [HY.out.2.2.1] at e8
              have c6 := R4.ms.cell 6 (by omega); rw [e6] at c6
              have c7 := R4.ms.cell 7 (by omega); rw [e7] at c7
              have c8 := R4.ms.cell 8 (by omega); rw [e8] at c8
              have E : Hid (f4 6 = .slice a6 c k6 ∧ f4 7 = .slice a7 c k7 ∧ f4 8 = .slice a8 c k8) := ⟨e6, e7, e8⟩
              clear e6 e7 e8
              have fz := R4.ms.fro
              have hm : c + 1 ≤ maxLen := by unfold maxLen; omega
              go_wp2_with (first
                | (at_builtin; refine wpList_append_own_at _ rfl (.tmp 103) (.tmp 107) 37 rfl (M + 1) 56 t0 _ 2 16 Yba.underlying37 ht hx0 hx1 hx2 rfl (by omega) (.slice a6 c k6) c (xs4 6) rfl (by have := (R4.ms.rows 6 rfl).alloc (.cells #[.int .i64 v, .int .i64 v] 56); rw [E.out.1, HY.out.1] at this; exact this) ⟨wr.heap.size, 0, none⟩ 1 1 [.int .i64 v, .int .i64 v] rfl rfl (cells2' _ _ _ _ rfl _) (by simp [Value.oneCell']) hm (by omega) (by have := R4.ms.lt; simp; omega) ?_; intro vA wA hownA hgrowA _ hatA; obtain ⟨aoA, qA, rfl⟩ := own_shape hownA; rw [← E.out.1] at hgrowA hatA; have cgA := (R4.ms.alloc _).cells_grown (k := 6) rfl hgrowA; have czA := cgA.1 6 (by omega); have czA7 := cgA.1 7 (by omega); have czA8 := cgA.1 8 (by omega); have fzA := cgA.2; clear cgA; rw [E.out.1] at czA; rw [E.out.2.1] at czA7; rw [E.out.2.2] at czA8; have RA := R4.append (k := 6) (by omega) rfl rfl _ hgrowA hownA hatA; have QA := Q.append hqM R4.ms (k := 6) rfl _ hgrowA (.slice aoA (c + 1) qA))
                | (at_builtin; refine wpList_append_own_at _ rfl (.tmp 116) (.tmp 118) 23 rfl (M + 1) 3 n0 _ 1 8 Yba.underlying23 hn hq0 hq1 hq2 rfl (by omega) (.slice a7 c k7) c (xs4 7) rfl (by have := (RA.ms.rows 7 rfl).alloc (.cells #[.int .i64 v] 3); rw [upd_other _ _ (by omega), upd_other _ _ (by omega), upd_other _ _ (by omega), E.out.2.1, HY.out.2.1] at this; exact this) ⟨wA.heap.size, 0, none⟩ 1 1 [.int .i64 v] rfl rfl (one_cell _ _ _ (by simp) _) (by simp [Value.oneCell']) hm (by omega) (by have := RA.ms.lt; simp at this ⊢; omega) ?_; intro vB wB hownB hgrowB _ hatB; obtain ⟨aoB, qB, rfl⟩ := own_shape hownB; have EB : upd f4 6 (.slice aoA (c + 1) qA) 7 = .slice a7 c k7 := (upd_other _ _ (by omega)).trans E.out.2.1; rw [← EB] at hgrowB hatB; have cgB := (RA.ms.alloc _).cells_grown (k := 7) rfl hgrowB; have czB := cgB.1 7 (by omega); have czB8 := cgB.1 8 (by omega); have fzB := cgB.2; clear cgB; rw [EB] at czB; rw [upd_other _ _ (by omega), E.out.2.2] at czB8; have RB := RA.append (k := 7) (by omega) rfl rfl _ hgrowB hownB hatB; have QB' := QA.append hqM RA.ms (k := 7) rfl _ hgrowB (.slice aoB (c + 1) qB); have EB' : Hid (upd f4 6 (.slice aoA (c + 1) qA) 7 = .slice a7 c k7) := EB; clear EB)
                | (at_builtin; refine wpList_append_own_at _ rfl (.tmp 128) (.tmp 131) 38 rfl (M + 1) 44 v0 _ 1 4 Yba.underlying38 hv hr0 hr1 hr2 rfl (by omega) (.slice a8 c k8) c (xs4 8) rfl (by have := (RB.ms.rows 8 rfl).alloc (.cells #[.int .i32 (wrap32 v)] 44); rw [upd_other _ _ (by omega), upd_other _ _ (by omega), upd_other _ _ (by omega), upd_other _ _ (by omega), upd_other _ _ (by omega), upd_other _ _ (by omega), E.out.2.2, HY.out.2.2.1] at this; exact this) ⟨wB.heap.size, 0, none⟩ 1 1 [.int .i32 (wrap32 v)] rfl rfl (one_cell _ _ _ (by simp) _) (by simp [Value.oneCell']) hm (by omega) (by have := RB.ms.lt; simp at this ⊢; omega) ?_; intro vC wC hownC hgrowC _ hatC; obtain ⟨aoC, qC, rfl⟩ := own_shape hownC; have EC : upd (upd f4 6 (.slice aoA (c + 1) qA)) 7 (.slice aoB (c + 1) qB) 8 = .slice a8 c k8 := ((upd_other _ _ (by omega)).trans (upd_other _ _ (by omega))).trans E.out.2.2; rw [← EC] at hgrowC hatC; have cgC := (RB.ms.alloc _).cells_grown (k := 8) rfl hgrowC; have czC := cgC.1 8 (by omega); have fzC := cgC.2; clear cgC; rw [EC] at czC; have RC := RB.append (k := 8) (by omega) rfl rfl _ hgrowC hownC hatC; have QC := QB'.append hqM RB.ms (k := 8) rfl _ hgrowC (.slice aoC (c + 1) qC); clear EC))
              go_roundw
              case rel => exact ⟨c + 1, by omega, by go_num, _, _, _, RC, QC, by simp [upd], by simp [upd], by simp [upd], by simpa [upd] using HY.out.2.2.2⟩
              case measure => simp [intOf]; omega
            · go_wp2
              go_roundw
              case rel => exact ⟨1, by omega, by go_num, f4, n4, xs4, R4, Q, fun h => by omega, fun _ => HY.out.2.2.2⟩
              case measure => simp [intOf]
        · have q := Q.cells.2
          go_wp2
          go_loopw [95] (fun i wr => ∃ c : Nat, c ≤ len4 ∧ i = .int .i64 c ∧ ∃ f' n' xs', Run M p ni w wr f' n' xs' ∧ QB wr1.heap.size M wr ∧ n' 11 = c ∧ n' 12 = c ∧ n' 13 = c) (fun i _ => len4 - (intOf i).toNat)
          case atStart => exact ⟨0, by omega, rfl, f3, n3, xs3, R3, Q, (HQ.out.2 (by omega)).1, (HQ.out.2 (by omega)).2.1, (HQ.out.2 (by omega)).2.2⟩
          case round =>
            clear R3 Q q HQ
            obtain ⟨c, hc, rfl, f4, n4, xs4, R4, Q, ya, yb, yd⟩ := hrel
            have HY : Hid (n4 11 = c ∧ n4 12 = c ∧ n4 13 = c) := ⟨ya, yb, yd⟩
            clear ya yb yd
            by_cases hc4 : c < len4
            · obtain ⟨b, off, rfl, hbl, hcs⟩ := row_at hw4.out hc4
              have cx := hcs c hc4
              rw [← R4.bel.cell (p := ⟨b, _, none⟩) hbl] at cx
              clear hcs hw3 hw4
              generalize (z4.take len4).getD c 0 = v at *
              obtain ⟨a6, k6, e6, _, _, _, _⟩ := R4.ms.slice (k := 11) rfl
              obtain ⟨a7, k7, e7, _, _, _, _⟩ := R4.ms.slice (k := 12) rfl
              obtain ⟨a8, k8, e8, _, _, _, _⟩ := R4.ms.slice (k := 13) rfl
              rw [HY.out.1] at e6
              rw [HY.out.2.1] at e7
              rw [HY.out.2.2] at e8
              have c6 := R4.ms.cell 11 (by omega); rw [e6] at c6
              have c7 := R4.ms.cell 12 (by omega); rw [e7] at c7
              have c8 := R4.ms.cell 13 (by omega); rw [e8] at c8
              have E : Hid (f4 11 = .slice a6 c k6 ∧ f4 12 = .slice a7 c k7 ∧ f4 13 = .slice a8 c k8) := ⟨e6, e7, e8⟩
              clear e6 e7 e8
              have fz := R4.ms.fro
              have hm : c + 1 ≤ maxLen := by unfold maxLen; omega
              go_wp2_with (first
                | (at_builtin; refine wpList_append_own_at _ rfl (.tmp 103) (.tmp 107) 37 rfl (M + 1) 56 t0 _ 2 16 Yba.underlying37 ht hx0 hx1 hx2 rfl (by omega) (.slice a6 c k6) c (xs4 11) rfl (by have := (R4.ms.rows 11 rfl).alloc (.cells #[.int .i64 v, .int .i64 v] 56); rw [E.out.1, HY.out.1] at this; exact this) ⟨wr.heap.size, 0, none⟩ 1 1 [.int .i64 v, .int .i64 v] rfl rfl (cells2' _ _ _ _ rfl _) (by simp [Value.oneCell']) hm (by omega) (by have := R4.ms.lt; simp; omega) ?_; intro vA wA hownA hgrowA _ hatA; obtain ⟨aoA, qA, rfl⟩ := own_shape hownA; rw [← E.out.1] at hgrowA hatA; have cgA := (R4.ms.alloc _).cells_grown (k := 11) rfl hgrowA; have czA := cgA.1 11 (by omega); have czA7 := cgA.1 12 (by omega); have czA8 := cgA.1 13 (by omega); have fzA := cgA.2; clear cgA; rw [E.out.1] at czA; rw [E.out.2.1] at czA7; rw [E.out.2.2] at czA8; have RA := R4.append (k := 11) (by omega) rfl rfl _ hgrowA hownA hatA; have QA := Q.append hqM R4.ms (k := 11) rfl _ hgrowA (.slice aoA (c + 1) qA))
                | (at_builtin; refine wpList_append_own_at _ rfl (.tmp 116) (.tmp 118) 23 rfl (M + 1) 3 n0 _ 1 8 Yba.underlying23 hn hq0 hq1 hq2 rfl (by omega) (.slice a7 c k7) c (xs4 12) rfl (by have := (RA.ms.rows 12 rfl).alloc (.cells #[.int .i64 v] 3); rw [upd_other _ _ (by omega), upd_other _ _ (by omega), upd_other _ _ (by omega), E.out.2.1, HY.out.2.1] at this; exact this) ⟨wA.heap.size, 0, none⟩ 1 1 [.int .i64 v] rfl rfl (one_cell _ _ _ (by simp) _) (by simp [Value.oneCell']) hm (by omega) (by have := RA.ms.lt; simp at this ⊢; omega) ?_; intro vB wB hownB hgrowB _ hatB; obtain ⟨aoB, qB, rfl⟩ := own_shape hownB; have EB : upd f4 11 (.slice aoA (c + 1) qA) 12 = .slice a7 c k7 := (upd_other _ _ (by omega)).trans E.out.2.1; rw [← EB] at hgrowB hatB; have cgB := (RA.ms.alloc _).cells_grown (k := 12) rfl hgrowB; have czB := cgB.1 12 (by omega); have czB8 := cgB.1 13 (by omega); have fzB := cgB.2; clear cgB; rw [EB] at czB; rw [upd_other _ _ (by omega), E.out.2.2] at czB8; have RB := RA.append (k := 12) (by omega) rfl rfl _ hgrowB hownB hatB; have QB' := QA.append hqM RA.ms (k := 12) rfl _ hgrowB (.slice aoB (c + 1) qB); have EB' : Hid (upd f4 11 (.slice aoA (c + 1) qA) 12 = .slice a7 c k7) := EB; clear EB)
                | (at_builtin; refine wpList_append_own_at _ rfl (.tmp 128) (.tmp 131) 38 rfl (M + 1) 44 v0 _ 1 4 Yba.underlying38 hv hr0 hr1 hr2 rfl (by omega) (.slice a8 c k8) c (xs4 13) rfl (by have := (RB.ms.rows 13 rfl).alloc (.cells #[.int .i32 (wrap32 v)] 44); rw [upd_other _ _ (by omega), upd_other _ _ (by omega), upd_other _ _ (by omega), upd_other _ _ (by omega), upd_other _ _ (by omega), upd_other _ _ (by omega), E.out.2.2, HY.out.2.2] at this; exact this) ⟨wB.heap.size, 0, none⟩ 1 1 [.int .i32 (wrap32 v)] rfl rfl (one_cell _ _ _ (by simp) _) (by simp [Value.oneCell']) hm (by omega) (by have := RB.ms.lt; simp at this ⊢; omega) ?_; intro vC wC hownC hgrowC _ hatC; obtain ⟨aoC, qC, rfl⟩ := own_shape hownC; have EC : upd (upd f4 11 (.slice aoA (c + 1) qA)) 12 (.slice aoB (c + 1) qB) 13 = .slice a8 c k8 := ((upd_other _ _ (by omega)).trans (upd_other _ _ (by omega))).trans E.out.2.2; rw [← EC] at hgrowC hatC; have cgC := (RB.ms.alloc _).cells_grown (k := 13) rfl hgrowC; have czC := cgC.1 13 (by omega); have fzC := cgC.2; clear cgC; rw [EC] at czC; have RC := RB.append (k := 13) (by omega) rfl rfl _ hgrowC hownC hatC; have QC := QB'.append hqM RB.ms (k := 13) rfl _ hgrowC (.slice aoC (c + 1) qC); clear EC))
              go_roundw
              case rel =>
                have HRel : ∃ c' : Nat, c' ≤ len4 ∧ Value.int .i64 ((c : Int) + 1) = .int .i64 c' ∧ ∃ f' n' xs', Run M p ni w (wC.setCell ⟨M, 13, none⟩ (.slice aoC (c + 1) qC)) f' n' xs' ∧ QB wr1.heap.size M (wC.setCell ⟨M, 13, none⟩ (.slice aoC (c + 1) qC)) ∧ n' 11 = c' ∧ n' 12 = c' ∧ n' 13 = c' := ⟨c + 1, by omega, by go_num, _, _, _, RC, QC, by simp [upd], by simp [upd], by simp [upd]⟩
                first
                  | exact HRel
                  | ((repeat apply Exists.intro); exact ⟨HRel, rfl⟩)
              case measure => simp [intOf]; omega
            · go_wp2
              go_roundw
              case rel => exact ⟨2, by omega, by go_num, f4, n4, xs4, R4, Q, fun h => by omega, fun h => by omega⟩
              case measure => simp [intOf]
        · clear Q HQ hw3 hw4
          have c2 := R3.ms.cell 2 (by omega); rw [R3.e2] at c2
          have c3 := R3.ms.cell 3 (by omega); rw [R3.e3] at c3
          obtain ⟨wr2, hwr2⟩ : ∃ wr2, wr2 = wr := ⟨_, rfl⟩
          subst hwr2
          go_wp2
          go_quiet (fail)
          clear c2 c3
          go_wp2_with fail
          refine (track_any hR M _ f3 n3 xs3 N (R3.ms.draws _) R3.ti R3.e2 R3.e3 hN hN').mono ?_
          rintro e wz ⟨rfl, f5, n5, xs5, T⟩
          have hBz : Hid (Below w.heap.size w wz) := (R3.draws _).bel.trans (T.bel.mono R3.hM)
          have P0 : Plain M p ni wz N := plain_of R3.e0 R3.e1 R3.e2 R3.e3 R3.e4 R3.e9 T
          have c0 := P0.c0
          have c1 := P0.c1
          have c2 := P0.c2
          have c3 := P0.c3
          obtain ⟨aa, ca, c14⟩ := P0.z 14 rfl
          have HF : Hid (N ≤ 256 → ∃ ao cap, cap ≤ maxLen ∧ N.toNat ≤ cap ∧ FlatF M wz N ao cap) := flat_of T
          have HS : Hid (256 < N → ∃ d g cap ar cr, 1 ≤ d ∧ d ≤ 3 ∧ cap ≤ maxLen ∧ 8 * (d + 1) ≤ cap ∧ SharedF M wz N d g cap ar cr) := shared_of T
          have hMz : M < wz.heap.size := T.ms.lt
          clear T R3
          have p34 := ptr34
          have p24 := ptr24
          go_wp2
          go_quiet (fail)
          go_wp2
          go_region
          go_wp2
          obtain ⟨wy, hwy⟩ : ∃ wy, wy = (wz.drewN (nq + 1)).alloc (.cells #[.pointer (some ⟨M, 4, none⟩), .pointer (some ⟨M, 9, none⟩)] 34) := ⟨_, rfl⟩
          have hyz : wz.heap.size < wy.heap.size := by rw [hwy]; simp
          have LZ : Hid (Later wz wy) := by rw [hwy]; exact ((Later.refl wz).draws _).alloc _
          have BY : Hid (Below w.heap.size w wy) := by rw [hwy]; exact ⟨hBz.out.os, hBz.out.tape, hBz.out.output, by have := hBz.out.size; simp; omega, fun b hb => by rw [Below.heap_alloc (wz.drewN (nq + 1)) _ b (by have := hBz.out.size; simp; omega)]; exact hBz.out.block b hb⟩
          have qy0 : wy.cell? ⟨wz.heap.size, 0, none⟩ = some (.pointer (some ⟨M, 4, none⟩)) := by rw [hwy, show wz.heap.size = (wz.drewN (nq + 1)).heap.size from rfl, World.cell?_alloc_new]; rfl
          have qy1 : wy.cell? ⟨wz.heap.size, 1, none⟩ = some (.pointer (some ⟨M, 9, none⟩)) := by rw [hwy, show wz.heap.size = (wz.drewN (nq + 1)).heap.size from rfl, World.cell?_alloc_new]; rfl
          have qq : Hid (wy.cell? ⟨wz.heap.size, 0, none⟩ = some (.pointer (some ⟨M, 4, none⟩)) ∧ wy.cell? ⟨wz.heap.size, 1, none⟩ = some (.pointer (some ⟨M, 9, none⟩))) := ⟨qy0, qy1⟩
          rw [← hwy]
          clear hwy c0 c1 c2 c3 c14 p34 p24 qy0 qy1
          go_loopw [213] (fun i wr => ∃ k : Nat, k ≤ 2 ∧ i = .int .i64 k ∧ ∃ q, wr = wy.drewN q) (fun i _ => 2 - (intOf i).toNat)
          case atStart => exact ⟨0, by omega, rfl, 0, rfl⟩
          case round =>
            obtain ⟨k2, hk2, rfl, q2, rfl⟩ := hrel
            rcases (show k2 = 0 ∨ k2 = 1 ∨ k2 = 2 by omega) with rfl | rfl | rfl
            · obtain ⟨q0, _⟩ := qq.out
              have PL := P0.later LZ.out
              obtain ⟨a4, r4, c4⟩ := PL.c4
              obtain ⟨a6, r6, c6⟩ := PL.z 6 rfl
              obtain ⟨a7, r7, c7⟩ := PL.z 7 rfl
              obtain ⟨a8, r8, c8⟩ := PL.z 8 rfl
              clear PL P0 hMz
              go_wp2
              exact ⟨⟨1, by omega, by go_num, q2, rfl⟩, by simp [intOf]⟩
            · obtain ⟨_, q0⟩ := qq.out
              have PL := P0.later LZ.out
              obtain ⟨a4, r4, c4⟩ := PL.c9
              obtain ⟨a6, r6, c6⟩ := PL.z 11 rfl
              obtain ⟨a7, r7, c7⟩ := PL.z 12 rfl
              obtain ⟨a8, r8, c8⟩ := PL.z 13 rfl
              clear PL P0 hMz
              go_wp2
              exact ⟨⟨2, by omega, by go_num, q2, rfl⟩, by simp [intOf]⟩
            · have PV := P0.later (LZ.out.draws q2)
              have LV : Hid (Later wz (wy.drewN q2)) := LZ.out.draws q2
              have BV : Hid (Below w.heap.size w (wy.drewN q2)) := ⟨BY.out.os, BY.out.tape, BY.out.output, BY.out.size, BY.out.block⟩
              clear P0 LZ BY qq hyz hBz hMz
              obtain ⟨wv, hwv⟩ : ∃ wv, wv = wy.drewN q2 := ⟨_, rfl⟩
              rw [← hwv] at PV LV BV ⊢
              clear hwv
              have c17 := PV.c17
              have c18 := PV.c18
              have c24 := PV.c24
              clear PV
              by_cases hS : 256 < N
              · obtain ⟨d, g, cap, ar, cr, hd1', hd3', hcm, hdc, S⟩ := HS.out hS
                clear HS HF
                have S' := S.later LV.out
                have hD : decide (256 < N) = true := by simp; exact hS
                rw [hD] at c18
                have c23 := S'.c23
                have c25 := S'.c25
                have c30 := S'.c30
                have c34 := S'.c34
                have c26 := S'.lf.c26
                have c27 := S'.lf.c27
                have HL : Hid (∀ n, LF M g d cap (wv.drewN n)) := fun n => ⟨S'.lf.c26, S'.lf.c27, S'.lf.c29, S'.lf.leaf, S'.lf.chain⟩
                clear S S' LV
                rcases (show d = 1 ∨ d = 2 ∨ d = 3 by omega) with rfl | rfl | rfl
                · go_wp2
                  go_quiet (fail)
                  go_wp2_with fail
                  refine (leaf_any M g 1 cap _ (HL.out _) (by omega) hcm hdc).mono ?_
                  rintro e wq ⟨rfl, k9, rfl⟩
                  go_wp2
                  go_ret
                  exact ⟨rfl, ⟨BV.out.os, BV.out.tape, BV.out.output, BV.out.size, BV.out.block⟩⟩
                · go_wp2
                  go_quiet (fail)
                  go_wp2_with fail
                  refine (leaf_any M g 2 cap _ (HL.out _) (by omega) hcm hdc).mono ?_
                  rintro e wq ⟨rfl, k9, rfl⟩
                  go_wp2
                  go_ret
                  exact ⟨rfl, ⟨BV.out.os, BV.out.tape, BV.out.output, BV.out.size, BV.out.block⟩⟩
                · go_wp2
                  go_quiet (fail)
                  go_wp2_with fail
                  refine (leaf_any M g 3 cap _ (HL.out _) (by omega) hcm hdc).mono ?_
                  rintro e wq ⟨rfl, k9, rfl⟩
                  go_wp2
                  go_ret
                  exact ⟨rfl, ⟨BV.out.os, BV.out.tape, BV.out.output, BV.out.size, BV.out.block⟩⟩
              · have hD : decide (256 < N) = false := by simp; omega
                rw [hD] at c18
                obtain ⟨ao, cap, hcm, hNc, FF⟩ := HF.out (by omega)
                clear HS HF
                have F' := FF.later LV.out
                clear FF LV
                have c22 := F'.c22
                have c23 := F'.c23
                by_cases hneg : N < 0
                · rw [show N.toNat = 0 by omega] at c22
                  clear F'
                  go_wp2
                  go_loopw [303] (fun i wr => i = .int .i64 0 ∧ ∃ q, wr = wv.drewN q) (fun i _ => 0)
                  case atStart => exact ⟨rfl, 0, rfl⟩
                  case round =>
                    obtain ⟨rfl, q3, rfl⟩ := hrel
                    go_wp2
                    go_ret
                    exact ⟨rfl, ⟨BV.out.os, BV.out.tape, BV.out.output, BV.out.size, BV.out.block⟩⟩
                · have HFR : Hid (∀ j, j < N.toNat → ∃ g, ao = some ⟨g, 0, none⟩ ∧ ∀ i, i < N.toNat → wv.cell? ⟨g, i, none⟩ = some (.int .i64 (-1))) := F'.row
                  clear F'
                  go_wp2
                  go_loopw [303] (fun i wr => ∃ k : Nat, k ≤ N.toNat ∧ i = .int .i64 k ∧ ∃ q, wr = wv.drewN q) (fun i _ => N.toNat - (intOf i).toNat)
                  case atStart => exact ⟨0, by omega, rfl, 0, rfl⟩
                  case round =>
                    obtain ⟨k3, hk3', rfl, q3, rfl⟩ := hrel
                    by_cases hkN : k3 < N.toNat
                    · obtain ⟨g, rfl, hrow⟩ := HFR.out k3 hkN
                      have cr := hrow k3 hkN
                      clear hrow HFR
                      go_wp2
                      exact ⟨⟨k3 + 1, by omega, by go_num, q3, rfl⟩, by simp [intOf]; omega⟩
                    · clear HFR
                      go_wp2
                      go_ret
                      exact ⟨rfl, ⟨BV.out.os, BV.out.tape, BV.out.output, BV.out.size, BV.out.block⟩⟩
end Go.Proofs.Ybulkbykw

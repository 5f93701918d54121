/- 'LawS3742BBuilt': the walk, out of the check's contract. -/
import Derived.Test.YbulkbylyFmtModelWalk
import Derived.Laws.AppendOwnNone
namespace Go.Proofs.YbulkbylyFmt
open Go.ChangeShapes Go.WideShapes Go.ChangeAt Go.RowKit
open Go.Extern.Stop Go.Stop Go.Extern
set_option linter.unusedVariables false

/-- The document as far as it is built: the bytes xs in a row of the call's own. -/
structure Doc (w : World) (m cap g : Nat) (xs : List Int) (wr : World) : Prop where
  own : wr.ownsRow w.heap.size 5 1 (.slice (some ⟨g, 0, none⟩) m cap) m (xs.map (Value.int .u8))
  len : xs.length = m
  bel : Below w.heap.size w wr

theorem own_shape {w : World} {base n : Nat} {v : Value} {xs : List Value} (h : w.ownsRow base 5 1 v n xs) (hn : 0 < n) : ∃ g cap, v = .slice (some ⟨g, 0, none⟩) n cap := by
  rcases h.2 with ⟨_, h1⟩ | ⟨g, cap, cur, h1, _⟩
  · omega
  · exact ⟨g, cap, h1⟩

theorem row_none {k : IntKind} {w : World} {a : Option Addr} {len cap : Nat} {zs : List Int} (h : IsRow k w a len cap zs) : a = none → len = 0 ∧ cap = 0 := by
  intro e; rcases h with ⟨_, h1, h2, _⟩ | ⟨x, h1, _⟩
  · exact ⟨h1, h2⟩
  · rw [e] at h1; cases h1
theorem row_len {k : IntKind} {w : World} {a : Option Addr} {len cap : Nat} {zs : List Int} (h : IsRow k w a len cap zs) : (zs.take len).length = len := by
  rcases h with ⟨_, h1, h2, rfl⟩ | ⟨x, h1, h2, h3, h4, _⟩
  · simp [h1]
  · simp; omega
theorem row_cells {k : IntKind} {w w' : World} {a : Option Addr} {len cap : Nat} {zs : List Int} (h : IsRow k w a len cap zs) (hb : Below w.heap.size w w') :
    ∀ ad, a = some ad → ∀ j u, ((zs.take len).map (Value.int k))[j]? = some u → w'.cell? (ad.add j) = some u := by
  intro ad e j u hu
  rcases h with ⟨h0, _⟩ | ⟨x, h1, h2, h3, h4, h5, _⟩
  · rw [h0] at e; cases e
  · rw [h1] at e; obtain rfl := Option.some.inj e
    have hj : j < zs.length ∧ j < len := by
      have := (List.getElem?_eq_some_iff.1 hu).1
      simp at this; omega
    have hc := h5 j hj.1
    have hlt : (x.add j).block < w.heap.size := World.block_lt_of_cell? w _ hc
    rw [hb.cell hlt, hc]
    rw [List.getElem?_map, List.getElem?_take, if_pos hj.2] at hu
    simp [List.getElem?_eq_getElem hj.1] at hu
    simp [List.getD, List.getElem?_eq_getElem hj.1, hu]

theorem Doc.base {w : World} {m cap g : Nat} {xs : List Int} {wr : World} (D : Doc w m cap g xs wr) : w.heap.size ≤ g := by
  rcases D.own.2 with ⟨h1, _⟩ | ⟨g', cap', cur, h1, hb, _⟩
  · cases h1
  · simp only [Value.slice.injEq, Option.some.injEq, Addr.mk.injEq, and_true, true_and] at h1
    omega

/-- Behind an append of ys. -/
theorem Doc.append {w : World} {m cap g : Nat} {xs : List Int} {wr wr1 w' : World} {v : Value} {ys : List Int} {k : Nat} (D : Doc w m cap g xs wr) (hm : 0 < m) (hb : Below w.heap.size w wr1) (hk : ys.length = k)
    (hown : w'.ownsRow w.heap.size 5 1 v (m + k) (xs.map (Value.int .u8) ++ ys.map (Value.int .u8))) (hgrow : wr1.grownBy w' (Value.slice (some ⟨g, 0, none⟩) m cap).ownBlock) :
    ∃ g' cap', v = .slice (some ⟨g', 0, none⟩) (m + k) cap' ∧ Doc w (m + k) cap' g' (xs ++ ys) w' := by
  obtain ⟨g', cap', rfl⟩ := own_shape hown (by omega)
  refine ⟨g', cap', rfl, by rw [List.map_append]; exact hown, by rw [List.length_append, D.len, hk], hb.grown hgrow hb.size (fun k hk => ?_)⟩
  have := D.base
  simp [Value.ownBlock] at hk
  omega

theorem Doc.alloc {w : World} {m cap g : Nat} {xs : List Int} {wr : World} (D : Doc w m cap g xs wr) (o : Obj) : Doc w m cap g xs (wr.alloc o) :=
  ⟨D.own.alloc o, D.len, D.bel.alloc D.bel.size o⟩

theorem one_cell' (w : World) (x : Value) (t : TypeId) : ∀ j u, [x][j]? = some u → (w.alloc (.cells #[x] t)).cell? ((⟨w.heap.size, 0, none⟩ : Addr).add j) = some u := cell_one_new w x t

set_option maxRecDepth 100000 in
set_option maxHeartbeats 4000000 in
theorem built_walk (F : Interp) (a0 : Option Addr) (len0 cap0 : Nat) (z0 : List Int) (sel : Int) (a2 : Option Addr) (len2 cap2 : Nat) (z2 : List Int) (dep : Int) (w : World) (hF : F.answers w.tape) (w0 : IsRow .u8 w a0 len0 cap0 z0) (w1 : (Lit.int .u8 sel).wf = true) (w2 : IsRow .u8 w a2 len2 cap2 z2) :
    Calls Ybaf.prog 4 #[.slice a0 len0 cap0, .int .u8 sel, .slice a2 len2 cap2, .int .i64 dep] w fun e w' => e = .returned (.bool true) ∧ Below w.heap.size w w' := by
  obtain ⟨hu0, hu1⟩ := bounds_u8 w1
  clear w1
  by_cases g1 : 1024 < len0
  · have hd1 : decide (1024 < (len0 : Int)) = true := by simp; omega
    clear w0 w2
    go_enter Ybaf.func4, Ybaf.ntmps4
    go_wp2
    go_ret
    exact ⟨rfl, Below.refl _ _⟩
  have hd1 : decide (1024 < (len0 : Int)) = false := by simp; omega
  by_cases g2 : 1024 < len2
  · have hd2 : decide (1024 < (len2 : Int)) = true := by simp; omega
    clear w0 w2
    go_enter Ybaf.func4, Ybaf.ntmps4
    go_wp2
    go_ret
    exact ⟨rfl, Below.refl _ _⟩
  have hd2 : decide (1024 < (len2 : Int)) = false := by simp; omega
  have W0 : Hid (IsRow .u8 w a0 len0 cap0 z0) := w0
  have W2 : Hid (IsRow .u8 w a2 len2 cap2 z2) := w2
  have HF : Hid (F.answers w.tape) := hF
  clear w0 w2 hF
  obtain ⟨i0, hi, hz0, hz1, hz2⟩ := info_parts info5
  have hb2 : i0.bytes * (len0 + len2 + 2) ≤ 281474976710656 := by rw [hz2]; omega
  have hb3 : len0 + len2 + 2 ≤ maxLen := by unfold maxLen; omega
  go_enter Ybaf.func4, Ybaf.ntmps4
  go_wp2_with (first
    | (at_make; refine wpList_make_own _ rfl (.const (.int .i64 0)) (.tmp 27) 22 rfl w.heap.size 5 i0 _ 1 Ybaf.underlying22 hi hz0 hz1 _ _ _ (len0 + len2 + 2) rfl rfl (by omega) hb2 hb3 (Nat.le_refl _) ?_; intro wm hownm hgrowm; have HM : Hid (wm.ownsRow w.heap.size 5 1 (.slice (some ⟨w.heap.size, 0, none⟩) 0 (len0 + len2 + 2)) 0 []) := hownm; have HBM : Hid (Below w.heap.size w wm) := (Below.refl _ _).grown hgrowm (Nat.le_refl _) (fun k h => by cases h); clear hownm hgrowm)
    | (at_builtin; refine wpList_append_own_at _ rfl (.tmp 29) (.tmp 30) 22 rfl w.heap.size 5 i0 (.int .u8 0) 1 1 Ybaf.underlying22 hi hz0 hz1 hz2 rfl (by decide) (.slice (some ⟨w.heap.size, 0, none⟩) 0 (len0 + len2 + 2)) 0 [] rfl (HM.out.alloc (.cells #[.int .u8 91] 5)) ⟨wm.heap.size, 0, none⟩ 1 1 [.int .u8 91] rfl rfl (one_cell' _ _ _) (by simp [Value.oneCell']) (by unfold maxLen; omega) (by omega) (by have := HBM.out.size; simp; omega) ?_; intro v1 wx hown1 hgrow1 hx1 hx2; clear hx1 hx2; obtain ⟨g, cap, rfl⟩ := own_shape hown1 (by omega); have HD : Hid (Doc w 1 cap g [91] wx) := ⟨hown1, rfl, (HBM.out.alloc HBM.out.size _).grown hgrow1 (by have := HBM.out.size; simp; omega) (fun k hk => by simp [Value.ownBlock] at hk; omega)⟩; clear HM HBM hown1 hgrow1))
  clear hb2 hb3
  go_loopw [11, 12] (fun d i wr => ∃ k g cap xs, k ≤ len0 ∧ i = .int .i64 (k : Nat) ∧ d = .slice (some ⟨g, 0, none⟩) (1 + k) cap ∧ Hid (Doc w (1 + k) cap g xs wr)) (fun _ i _ => len0 - (intOf i).toNat)
  case atStart => exact ⟨0, g, cap, [91], by omega, rfl, rfl, HD⟩
  case round =>
    clear HD
    obtain ⟨k, g, cap, xs, hk, rfl, rfl, HD⟩ := hrel
    by_cases hk0 : k < len0
    · obtain ⟨b, off, rfl, hl, hB, hwf⟩ := row_at W0.out (by omega)
      have ck := hB.below HD.out.bel (hB.lt (by omega)) k hk0
      obtain ⟨hv0, hv1⟩ : 0 ≤ (z0.take len0).getD k 0 ∧ (z0.take len0).getD k 0 ≤ 255 := by
        have hm : (z0.take len0).getD k 0 ∈ z0.take len0 := by
          rw [List.getD, List.getElem?_eq_getElem (by omega : k < (z0.take len0).length)]
          exact List.getElem_mem _
        exact bounds_u8 (hwf _ hm)
      clear hB hwf hl W0 W2
      generalize (z0.take len0).getD k 0 = v at *
      have hm1 : 1 + k + 1 ≤ maxLen := by unfold maxLen; omega
      rcases (show v % 4 = 0 ∨ v % 4 = 1 ∨ v % 4 = 2 ∨ v % 4 = 3 by omega) with h4 | h4 | h4 | h4
      · go_wp2_with (at_builtin; refine wpList_append_own_at _ rfl (.tmp 38) (.tmp 47) 22 rfl w.heap.size 5 i0 (.int .u8 0) 1 1 Ybaf.underlying22 hi hz0 hz1 hz2 rfl (by decide) (.slice (some ⟨g, 0, none⟩) (1 + k) cap) (1 + k) (xs.map (Value.int .u8)) rfl (HD.out.own.alloc (.cells #[.int .u8 32] 5)) ⟨wr.heap.size, 0, none⟩ 1 1 [.int .u8 32] rfl rfl (one_cell' _ _ _) (by simp [Value.oneCell']) hm1 (by omega) (by have := HD.out.bel.size; simp; omega) ?_; intro v1 wx hown1 hgrow1 hx1 hx2; clear hx1 hx2; obtain ⟨g', cap', rfl, D'⟩ := HD.out.append (ys := [32]) (k := 1) (by omega) (HD.out.alloc _).bel rfl hown1 hgrow1; have HD' : Hid (Doc w (1 + k + 1) cap' g' (xs ++ [32]) wx) := D'; clear D' hown1 hgrow1)
        exact ⟨⟨k + 1, g', cap', _, by omega, by go_num, rfl, HD'⟩, by simp [intOf]; omega⟩
      · go_wp2_with (at_builtin; refine wpList_append_own_at _ rfl (.tmp 38) (.tmp 47) 22 rfl w.heap.size 5 i0 (.int .u8 0) 1 1 Ybaf.underlying22 hi hz0 hz1 hz2 rfl (by decide) (.slice (some ⟨g, 0, none⟩) (1 + k) cap) (1 + k) (xs.map (Value.int .u8)) rfl (HD.out.own.alloc (.cells #[.int .u8 9] 5)) ⟨wr.heap.size, 0, none⟩ 1 1 [.int .u8 9] rfl rfl (one_cell' _ _ _) (by simp [Value.oneCell']) hm1 (by omega) (by have := HD.out.bel.size; simp; omega) ?_; intro v1 wx hown1 hgrow1 hx1 hx2; clear hx1 hx2; obtain ⟨g', cap', rfl, D'⟩ := HD.out.append (ys := [9]) (k := 1) (by omega) (HD.out.alloc _).bel rfl hown1 hgrow1; have HD' : Hid (Doc w (1 + k + 1) cap' g' (xs ++ [9]) wx) := D'; clear D' hown1 hgrow1)
        exact ⟨⟨k + 1, g', cap', _, by omega, by go_num, rfl, HD'⟩, by simp [intOf]; omega⟩
      · go_wp2_with (at_builtin; refine wpList_append_own_at _ rfl (.tmp 38) (.tmp 47) 22 rfl w.heap.size 5 i0 (.int .u8 0) 1 1 Ybaf.underlying22 hi hz0 hz1 hz2 rfl (by decide) (.slice (some ⟨g, 0, none⟩) (1 + k) cap) (1 + k) (xs.map (Value.int .u8)) rfl (HD.out.own.alloc (.cells #[.int .u8 10] 5)) ⟨wr.heap.size, 0, none⟩ 1 1 [.int .u8 10] rfl rfl (one_cell' _ _ _) (by simp [Value.oneCell']) hm1 (by omega) (by have := HD.out.bel.size; simp; omega) ?_; intro v1 wx hown1 hgrow1 hx1 hx2; clear hx1 hx2; obtain ⟨g', cap', rfl, D'⟩ := HD.out.append (ys := [10]) (k := 1) (by omega) (HD.out.alloc _).bel rfl hown1 hgrow1; have HD' : Hid (Doc w (1 + k + 1) cap' g' (xs ++ [10]) wx) := D'; clear D' hown1 hgrow1)
        exact ⟨⟨k + 1, g', cap', _, by omega, by go_num, rfl, HD'⟩, by simp [intOf]; omega⟩
      · go_wp2_with (at_builtin; refine wpList_append_own_at _ rfl (.tmp 38) (.tmp 47) 22 rfl w.heap.size 5 i0 (.int .u8 0) 1 1 Ybaf.underlying22 hi hz0 hz1 hz2 rfl (by decide) (.slice (some ⟨g, 0, none⟩) (1 + k) cap) (1 + k) (xs.map (Value.int .u8)) rfl (HD.out.own.alloc (.cells #[.int .u8 13] 5)) ⟨wr.heap.size, 0, none⟩ 1 1 [.int .u8 13] rfl rfl (one_cell' _ _ _) (by simp [Value.oneCell']) hm1 (by omega) (by have := HD.out.bel.size; simp; omega) ?_; intro v1 wx hown1 hgrow1 hx1 hx2; clear hx1 hx2; obtain ⟨g', cap', rfl, D'⟩ := HD.out.append (ys := [13]) (k := 1) (by omega) (HD.out.alloc _).bel rfl hown1 hgrow1; have HD' : Hid (Doc w (1 + k + 1) cap' g' (xs ++ [13]) wx) := D'; clear D' hown1 hgrow1)
        exact ⟨⟨k + 1, g', cap', _, by omega, by go_num, rfl, HD'⟩, by simp [intOf]; omega⟩
    · clear W0
      have hm1 : 1 + k + 1 ≤ maxLen := by unfold maxLen; omega
      have hm2 : 1 + k + 1 + len2 ≤ maxLen := by unfold maxLen; omega
      have hl2 : Hid ((z2.take len2).length = len2) := row_len W2.out
      rcases (show sel % 3 = 0 ∨ sel % 3 = 1 ∨ sel % 3 = 2 by omega) with h3 | h3 | h3
      · cases a2 with
        | none =>
          obtain ⟨rfl, rfl⟩ : len2 = 0 ∧ cap2 = 0 := row_none W2.out rfl
          go_wp2_with (first
            | (at_builtin; refine wpList_append_own_at _ rfl (.tmp 49) (.tmp 55) 22 rfl w.heap.size 5 i0 (.int .u8 0) 1 1 Ybaf.underlying22 hi hz0 hz1 hz2 rfl (by decide) (.slice (some ⟨g, 0, none⟩) (1 + k) cap) (1 + k) (xs.map (Value.int .u8)) rfl (HD.out.own.alloc (.cells #[.int .u8 93] 5)) ⟨wr.heap.size, 0, none⟩ 1 1 [.int .u8 93] rfl rfl (one_cell' _ _ _) (by simp [Value.oneCell']) hm1 (by omega) (by have := HD.out.bel.size; simp; omega) ?_; intro v1 wx hown1 hgrow1 hx1 hx2; clear hx1 hx2; obtain ⟨g', cap', rfl, D'⟩ := HD.out.append (ys := [93]) (k := 1) (by omega) (HD.out.alloc _).bel rfl hown1 hgrow1; have HD' : Hid (Doc w (1 + k + 1) cap' g' (xs ++ [93]) wx) := D'; clear D' hown1 hgrow1 HD)
            | (at_builtin; refine wpList_append_own_none rfl (.tmp 57) (.tmp 58) 22 rfl w.heap.size 5 i0 1 Ybaf.underlying22 hi (.slice (some ⟨g', 0, none⟩) (1 + k + 1) cap') (1 + k + 1) ((xs ++ [93]).map (Value.int .u8)) rfl HD'.out.own rfl ?_))
          all_goals
            refine (check_any F g' 0 (1 + k + 1) cap' 0 _ dep _ wx (by rw [HD'.out.bel.tape]; exact HF.out) HD'.out.len (by omega) (by omega) (Bytes.of_own HD'.out.len HD'.out.own)).mono ?_
            rintro e w3 ⟨rfl, hb3⟩
            go_wp2
            go_ret
            exact ⟨rfl, HD'.out.bel.trans (hb3.mono HD'.out.bel.size)⟩
        | some y =>
          go_wp2_with (first
            | (at_builtin; refine wpList_append_own_at _ rfl (.tmp 49) (.tmp 55) 22 rfl w.heap.size 5 i0 (.int .u8 0) 1 1 Ybaf.underlying22 hi hz0 hz1 hz2 rfl (by decide) (.slice (some ⟨g, 0, none⟩) (1 + k) cap) (1 + k) (xs.map (Value.int .u8)) rfl (HD.out.own.alloc (.cells #[.int .u8 93] 5)) ⟨wr.heap.size, 0, none⟩ 1 1 [.int .u8 93] rfl rfl (one_cell' _ _ _) (by simp [Value.oneCell']) hm1 (by omega) (by have := HD.out.bel.size; simp; omega) ?_; intro v1 wx hown1 hgrow1 hx1 hx2; clear hx1 hx2; obtain ⟨g', cap', rfl, D'⟩ := HD.out.append (ys := [93]) (k := 1) (by omega) (HD.out.alloc _).bel rfl hown1 hgrow1; have HD' : Hid (Doc w (1 + k + 1) cap' g' (xs ++ [93]) wx) := D'; clear D' hown1 hgrow1 HD)
            | (at_builtin; refine wpList_append_own_at _ rfl (.tmp 57) (.tmp 58) 22 rfl w.heap.size 5 i0 (.int .u8 0) 1 1 Ybaf.underlying22 hi hz0 hz1 hz2 rfl (by decide) (.slice (some ⟨g', 0, none⟩) (1 + k + 1) cap') (1 + k + 1) ((xs ++ [93]).map (Value.int .u8)) rfl HD'.out.own y len2 cap2 ((z2.take len2).map (Value.int .u8)) rfl (by simpa using hl2.out) (row_cells W2.out HD'.out.bel y rfl) (by intro u hu; obtain ⟨x, _, rfl⟩ := List.mem_map.1 hu; rfl) hm2 (by omega) HD'.out.bel.size ?_; intro v2 wy hown2 hgrow2 hx1 hx2; clear hx1 hx2; obtain ⟨g2, cap2', rfl, D2⟩ := HD'.out.append (ys := z2.take len2) (k := len2) (by omega) HD'.out.bel hl2.out hown2 hgrow2; have HD2 : Hid (Doc w (1 + k + 1 + len2) cap2' g2 (xs ++ [93] ++ z2.take len2) wy) := D2; clear D2 hown2 hgrow2 HD'))
          all_goals
            refine (check_any F g2 0 (1 + k + 1 + len2) cap2' 0 _ dep _ wy (by rw [HD2.out.bel.tape]; exact HF.out) HD2.out.len (by omega) (by omega) (Bytes.of_own HD2.out.len HD2.out.own)).mono ?_
            rintro e w3 ⟨rfl, hb3⟩
            go_wp2
            go_ret
            exact ⟨rfl, HD2.out.bel.trans (hb3.mono HD2.out.bel.size)⟩
      · cases a2 with
        | none =>
          obtain ⟨rfl, rfl⟩ : len2 = 0 ∧ cap2 = 0 := row_none W2.out rfl
          go_wp2_with (first
            | (at_builtin; refine wpList_append_own_at _ rfl (.tmp 49) (.tmp 55) 22 rfl w.heap.size 5 i0 (.int .u8 0) 1 1 Ybaf.underlying22 hi hz0 hz1 hz2 rfl (by decide) (.slice (some ⟨g, 0, none⟩) (1 + k) cap) (1 + k) (xs.map (Value.int .u8)) rfl (HD.out.own.alloc (.cells #[.int .u8 125] 5)) ⟨wr.heap.size, 0, none⟩ 1 1 [.int .u8 125] rfl rfl (one_cell' _ _ _) (by simp [Value.oneCell']) hm1 (by omega) (by have := HD.out.bel.size; simp; omega) ?_; intro v1 wx hown1 hgrow1 hx1 hx2; clear hx1 hx2; obtain ⟨g', cap', rfl, D'⟩ := HD.out.append (ys := [125]) (k := 1) (by omega) (HD.out.alloc _).bel rfl hown1 hgrow1; have HD' : Hid (Doc w (1 + k + 1) cap' g' (xs ++ [125]) wx) := D'; clear D' hown1 hgrow1 HD)
            | (at_builtin; refine wpList_append_own_none rfl (.tmp 57) (.tmp 58) 22 rfl w.heap.size 5 i0 1 Ybaf.underlying22 hi (.slice (some ⟨g', 0, none⟩) (1 + k + 1) cap') (1 + k + 1) ((xs ++ [125]).map (Value.int .u8)) rfl HD'.out.own rfl ?_))
          all_goals
            refine (check_any F g' 0 (1 + k + 1) cap' 0 _ dep _ wx (by rw [HD'.out.bel.tape]; exact HF.out) HD'.out.len (by omega) (by omega) (Bytes.of_own HD'.out.len HD'.out.own)).mono ?_
            rintro e w3 ⟨rfl, hb3⟩
            go_wp2
            go_ret
            exact ⟨rfl, HD'.out.bel.trans (hb3.mono HD'.out.bel.size)⟩
        | some y =>
          go_wp2_with (first
            | (at_builtin; refine wpList_append_own_at _ rfl (.tmp 49) (.tmp 55) 22 rfl w.heap.size 5 i0 (.int .u8 0) 1 1 Ybaf.underlying22 hi hz0 hz1 hz2 rfl (by decide) (.slice (some ⟨g, 0, none⟩) (1 + k) cap) (1 + k) (xs.map (Value.int .u8)) rfl (HD.out.own.alloc (.cells #[.int .u8 125] 5)) ⟨wr.heap.size, 0, none⟩ 1 1 [.int .u8 125] rfl rfl (one_cell' _ _ _) (by simp [Value.oneCell']) hm1 (by omega) (by have := HD.out.bel.size; simp; omega) ?_; intro v1 wx hown1 hgrow1 hx1 hx2; clear hx1 hx2; obtain ⟨g', cap', rfl, D'⟩ := HD.out.append (ys := [125]) (k := 1) (by omega) (HD.out.alloc _).bel rfl hown1 hgrow1; have HD' : Hid (Doc w (1 + k + 1) cap' g' (xs ++ [125]) wx) := D'; clear D' hown1 hgrow1 HD)
            | (at_builtin; refine wpList_append_own_at _ rfl (.tmp 57) (.tmp 58) 22 rfl w.heap.size 5 i0 (.int .u8 0) 1 1 Ybaf.underlying22 hi hz0 hz1 hz2 rfl (by decide) (.slice (some ⟨g', 0, none⟩) (1 + k + 1) cap') (1 + k + 1) ((xs ++ [125]).map (Value.int .u8)) rfl HD'.out.own y len2 cap2 ((z2.take len2).map (Value.int .u8)) rfl (by simpa using hl2.out) (row_cells W2.out HD'.out.bel y rfl) (by intro u hu; obtain ⟨x, _, rfl⟩ := List.mem_map.1 hu; rfl) hm2 (by omega) HD'.out.bel.size ?_; intro v2 wy hown2 hgrow2 hx1 hx2; clear hx1 hx2; obtain ⟨g2, cap2', rfl, D2⟩ := HD'.out.append (ys := z2.take len2) (k := len2) (by omega) HD'.out.bel hl2.out hown2 hgrow2; have HD2 : Hid (Doc w (1 + k + 1 + len2) cap2' g2 (xs ++ [125] ++ z2.take len2) wy) := D2; clear D2 hown2 hgrow2 HD'))
          all_goals
            refine (check_any F g2 0 (1 + k + 1 + len2) cap2' 0 _ dep _ wy (by rw [HD2.out.bel.tape]; exact HF.out) HD2.out.len (by omega) (by omega) (Bytes.of_own HD2.out.len HD2.out.own)).mono ?_
            rintro e w3 ⟨rfl, hb3⟩
            go_wp2
            go_ret
            exact ⟨rfl, HD2.out.bel.trans (hb3.mono HD2.out.bel.size)⟩
      · cases a2 with
        | none =>
          obtain ⟨rfl, rfl⟩ : len2 = 0 ∧ cap2 = 0 := row_none W2.out rfl
          go_wp2_with (first
            | (at_builtin; refine wpList_append_own_at _ rfl (.tmp 49) (.tmp 55) 22 rfl w.heap.size 5 i0 (.int .u8 0) 1 1 Ybaf.underlying22 hi hz0 hz1 hz2 rfl (by decide) (.slice (some ⟨g, 0, none⟩) (1 + k) cap) (1 + k) (xs.map (Value.int .u8)) rfl (HD.out.own.alloc (.cells #[.int .u8 120] 5)) ⟨wr.heap.size, 0, none⟩ 1 1 [.int .u8 120] rfl rfl (one_cell' _ _ _) (by simp [Value.oneCell']) hm1 (by omega) (by have := HD.out.bel.size; simp; omega) ?_; intro v1 wx hown1 hgrow1 hx1 hx2; clear hx1 hx2; obtain ⟨g', cap', rfl, D'⟩ := HD.out.append (ys := [120]) (k := 1) (by omega) (HD.out.alloc _).bel rfl hown1 hgrow1; have HD' : Hid (Doc w (1 + k + 1) cap' g' (xs ++ [120]) wx) := D'; clear D' hown1 hgrow1 HD)
            | (at_builtin; refine wpList_append_own_none rfl (.tmp 57) (.tmp 58) 22 rfl w.heap.size 5 i0 1 Ybaf.underlying22 hi (.slice (some ⟨g', 0, none⟩) (1 + k + 1) cap') (1 + k + 1) ((xs ++ [120]).map (Value.int .u8)) rfl HD'.out.own rfl ?_))
          all_goals
            refine (check_any F g' 0 (1 + k + 1) cap' 0 _ dep _ wx (by rw [HD'.out.bel.tape]; exact HF.out) HD'.out.len (by omega) (by omega) (Bytes.of_own HD'.out.len HD'.out.own)).mono ?_
            rintro e w3 ⟨rfl, hb3⟩
            go_wp2
            go_ret
            exact ⟨rfl, HD'.out.bel.trans (hb3.mono HD'.out.bel.size)⟩
        | some y =>
          go_wp2_with (first
            | (at_builtin; refine wpList_append_own_at _ rfl (.tmp 49) (.tmp 55) 22 rfl w.heap.size 5 i0 (.int .u8 0) 1 1 Ybaf.underlying22 hi hz0 hz1 hz2 rfl (by decide) (.slice (some ⟨g, 0, none⟩) (1 + k) cap) (1 + k) (xs.map (Value.int .u8)) rfl (HD.out.own.alloc (.cells #[.int .u8 120] 5)) ⟨wr.heap.size, 0, none⟩ 1 1 [.int .u8 120] rfl rfl (one_cell' _ _ _) (by simp [Value.oneCell']) hm1 (by omega) (by have := HD.out.bel.size; simp; omega) ?_; intro v1 wx hown1 hgrow1 hx1 hx2; clear hx1 hx2; obtain ⟨g', cap', rfl, D'⟩ := HD.out.append (ys := [120]) (k := 1) (by omega) (HD.out.alloc _).bel rfl hown1 hgrow1; have HD' : Hid (Doc w (1 + k + 1) cap' g' (xs ++ [120]) wx) := D'; clear D' hown1 hgrow1 HD)
            | (at_builtin; refine wpList_append_own_at _ rfl (.tmp 57) (.tmp 58) 22 rfl w.heap.size 5 i0 (.int .u8 0) 1 1 Ybaf.underlying22 hi hz0 hz1 hz2 rfl (by decide) (.slice (some ⟨g', 0, none⟩) (1 + k + 1) cap') (1 + k + 1) ((xs ++ [120]).map (Value.int .u8)) rfl HD'.out.own y len2 cap2 ((z2.take len2).map (Value.int .u8)) rfl (by simpa using hl2.out) (row_cells W2.out HD'.out.bel y rfl) (by intro u hu; obtain ⟨x, _, rfl⟩ := List.mem_map.1 hu; rfl) hm2 (by omega) HD'.out.bel.size ?_; intro v2 wy hown2 hgrow2 hx1 hx2; clear hx1 hx2; obtain ⟨g2, cap2', rfl, D2⟩ := HD'.out.append (ys := z2.take len2) (k := len2) (by omega) HD'.out.bel hl2.out hown2 hgrow2; have HD2 : Hid (Doc w (1 + k + 1 + len2) cap2' g2 (xs ++ [120] ++ z2.take len2) wy) := D2; clear D2 hown2 hgrow2 HD'))
          all_goals
            refine (check_any F g2 0 (1 + k + 1 + len2) cap2' 0 _ dep _ wy (by rw [HD2.out.bel.tape]; exact HF.out) HD2.out.len (by omega) (by omega) (Bytes.of_own HD2.out.len HD2.out.own)).mono ?_
            rintro e w3 ⟨rfl, hb3⟩
            go_wp2
            go_ret
            exact ⟨rfl, HD2.out.bel.trans (hb3.mono HD2.out.bel.size)⟩
end Go.Proofs.YbulkbylyFmt

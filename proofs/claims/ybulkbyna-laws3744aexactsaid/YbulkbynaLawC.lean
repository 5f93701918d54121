/- The law's setting up: the solver's rows are made. -/
import Derived.Test.YbulkbynaLawM
import Derived.Test.YbulkbynaOrderL
namespace Go.Proofs.Ybulkbyna
open Go.ChangeShapes Go.WideShapes Go.ChangeAt Go.RowKit
set_option linter.unusedVariables false
set_option linter.unusedSimpArgs false

def rzero : Nat → Value
  | 1 => .int .i64 0 | 3 => .slice none 0 0 | 4 => .slice none 0 0 | _ => .float .f64 0
def rlen' (I : Inp) : Nat → Nat
  | 1 | 2 | 3 | 11 | 12 => I.nv
  | 13 | 14 => I.nr
  | _ => I.m
def solv0 (I : Inp) (b : Nat → Nat) : List Value :=
  [.int .i64 I.nv, sl (b 1) I.nv, sl (b 2) I.nv, sl (b 3) I.nv, sl (b 4) I.m, sl (b 5) I.m, sl (b 6) I.m, .int .i64 I.nr, .slice none 0 0, .slice none 0 0, .slice none 0 0,
   .slice none 0 0, .slice none 0 0, .slice none 0 0, .slice none 0 0, .slice none 0 0, .slice none 0 0, .slice none 0 0, .slice none 0 0]
/-- The slots and the rows while the solver is set up. -/
structure PreB (I : Inp) (L : List Nat) (sv : (Nat → Nat) → List Value) (g : Nat → Value) (w : World) (b : Nat → Nat) (c : Nat → List Value) : Prop where
  mem : Mem L b c I.w0 w
  k0 : c 0 = uCells I.us I.m
  k18 : c 18 = sv b
  kz : ∀ k ∈ L, k ≠ 0 → k ≠ 18 → c k = List.replicate (rlen' I k) (rzero k)
  s0 : g 0 = .slice I.av I.nv I.cv
  s1 : g 1 = .slice I.au I.nu I.cu
  s2 : g 2 = .slice I.ar I.nr I.cr
  s9 : g 9 = .int .i64 I.m
  s10 : g 10 = .slice (some ⟨b 0, 0, none⟩) I.m I.m
  s11 : g 11 = .int .i64 I.nv
  s12 : g 12 = .int .i64 I.nr
  s13 : g 13 = .pointer (some ⟨b 18, 0, none⟩)
def Pre (I : Inp) (L : List Nat) (sv : (Nat → Nat) → List Value) (g : Nat → Value) (w : World) : Prop := ∃ b c, PreB I L sv g w b c

theorem pre_new {I : Inp} {L : List Nat} {sv : (Nat → Nat) → List Value} {g g' : Nat → Value} {w w' : World} {b : Nat → Nat} {c : Nat → List Value} (h : PreB I L sv g w b c) {k n : Nat} (hk : k ∉ L) (h0 : k ≠ 0) (h18 : k ≠ 18) (h18L : 18 ∈ L) (hsv : ∀ q, sv (upd b k q) = sv b)
    (hg : w.grownBy w' none) (ho : w'.ownsRow I.w0.heap.size (ty k) 1 (.slice (some ⟨w.heap.size, 0, none⟩) n n) n (List.replicate (rlen' I k) (rzero k)))
    (hg' : ∀ i, i = 0 ∨ i = 1 ∨ i = 2 ∨ i = 9 ∨ i = 10 ∨ i = 11 ∨ i = 12 ∨ i = 13 → g' i = g i) (v : Value) (hv : v = sl w.heap.size (rlen' I k)) (d : Nat) :
    PreB I (k :: L) (fun b => (sv b).set d (sl (b k) (rlen' I k))) g' (w'.setCell ⟨b 18, d, none⟩ v) (upd b k w.heap.size) (upd (upd c k (List.replicate (rlen' I k) (rzero k))) 18 ((c 18).set d v)) := by
  have hM := h.mem.new hg ho hk
  have hM2 := hM.set (k := 18) (List.mem_cons_of_mem _ h18L) d v
  rw [upd_other _ _ (Ne.symm h18), upd_other _ _ (Ne.symm h18)] at hM2
  refine ⟨hM2, ?_, ?_, ?_, ?_, ?_, ?_, ?_, ?_, ?_, ?_, ?_⟩
  · rw [upd_other _ _ (by decide), upd_other _ _ (Ne.symm h0)]; exact h.k0
  · rw [upd_same, h.k18, hsv, upd_same, hv]
  · intro k' hk' h0' h18'
    rw [upd_other _ _ h18']
    by_cases e : k' = k
    · subst e; rw [upd_same]
    · rw [upd_other _ _ e]
      rcases List.mem_cons.1 hk' with h1 | h1
      · exact absurd h1 e
      · exact h.kz k' h1 h0' h18'
  · rw [hg' 0 (by simp)]; exact h.s0
  · rw [hg' 1 (by simp)]; exact h.s1
  · rw [hg' 2 (by simp)]; exact h.s2
  · rw [hg' 9 (by simp)]; exact h.s9
  · rw [hg' 10 (by simp), upd_other _ _ (Ne.symm h0)]; exact h.s10
  · rw [hg' 11 (by simp)]; exact h.s11
  · rw [hg' 12 (by simp)]; exact h.s12
  · rw [hg' 13 (by simp), upd_other _ _ (Ne.symm h18)]; exact h.s13
def SV : Nat → Inp → (Nat → Nat) → List Value
  | 0, I => solv0 I
  | n + 1, I => fun b => (SV n I b).set (11 + n) (sl (b (11 + n)) (rlen' I (11 + n)))
def LS : Nat → List Nat
  | 0 => [18, 1, 2, 3, 4, 5, 6, 0]
  | n + 1 => (11 + n) :: LS n

set_option maxRecDepth 1000000 in
set_option maxHeartbeats 4000000 in
theorem it11 {I : Inp} {g : Nat → Value} {w : World} (hI : I.Ok) (h : Pre I (LS 0) (SV 0 I) g w) (Rq : Ending → World → Prop) :
    (item 11).wp Yba.prog (Exit.then (Mid (Pre I (LS 1) (SV 1 I))) (bodyPost Yba.prog Yba.f3 Rq)) (Fr g) w := by
  obtain ⟨b, c, hp⟩ := h
  obtain ⟨i0, hi, hz0, hz1, hz2⟩ := info_parts info41
  have hn : I.nv ≤ 300 := hI.v3
  have hb2 : i0.bytes * I.nv ≤ 281474976710656 := by rw [hz2]; omega
  have hb3 : I.nv ≤ maxLen := by unfold maxLen; omega
  have hsz : I.w0.heap.size ≤ w.heap.size := hp.mem.bel.size
  rw [Fr_lit, hp.s0, hp.s1, hp.s2, hp.s9, hp.s10, hp.s11, hp.s12, hp.s13]
  have HP : Hid (PreB I (LS 0) (SV 0 I) g w b c) := hp
  clear hp hI
  conv => arg 2; whnf
  go_wp2_with (at_make; refine wpList_make_full _ rfl (.tmp 110) (.tmp 110) 33 rfl I.w0.heap.size 41 i0 _ 1 Yba.underlying33 hi hz0 hz1 _ _ _ _ I.nv rfl rfl rfl rfl hb2 hb3 hsz ?_; intro w1 ho1 hg1; rw [made_one _ _ rfl] at ho1; have hB1 := (HP.out.mem.blk 18 (by decide)).grown hg1 (by simp); have sS : w1.cell? ⟨b 18, 11, none⟩ = some (.slice none 0 0) := (by rw [hB1.cell, HP.out.k18]; rfl); have fS := hB1.frozen 11; have lS := hB1.lt; clear hB1)
  refine mid_intro (by kernel_rfl) ⟨_, _, pre_new HP.out (k := 11) (by decide) (by decide) (by decide) (by decide) (fun q => rfl) hg1 ho1 ?_ _ rfl 11⟩
  rintro i (rfl | rfl | rfl | rfl | rfl | rfl | rfl | rfl)
  · rw [HP.out.s0]; kernel_rfl
  · rw [HP.out.s1]; kernel_rfl
  · rw [HP.out.s2]; kernel_rfl
  · rw [HP.out.s9]; kernel_rfl
  · rw [HP.out.s10]; kernel_rfl
  · rw [HP.out.s11]; kernel_rfl
  · rw [HP.out.s12]; kernel_rfl
  · rw [HP.out.s13]; kernel_rfl

set_option maxRecDepth 1000000 in
set_option maxHeartbeats 4000000 in
theorem it12 {I : Inp} {g : Nat → Value} {w : World} (hI : I.Ok) (h : Pre I (LS 1) (SV 1 I) g w) (Rq : Ending → World → Prop) :
    (item 12).wp Yba.prog (Exit.then (Mid (Pre I (LS 2) (SV 2 I))) (bodyPost Yba.prog Yba.f3 Rq)) (Fr g) w := by
  obtain ⟨b, c, hp⟩ := h
  obtain ⟨i0, hi, hz0, hz1, hz2⟩ := info_parts info41
  have hn : I.nv ≤ 300 := hI.v3
  have hb2 : i0.bytes * I.nv ≤ 281474976710656 := by rw [hz2]; omega
  have hb3 : I.nv ≤ maxLen := by unfold maxLen; omega
  have hsz : I.w0.heap.size ≤ w.heap.size := hp.mem.bel.size
  rw [Fr_lit, hp.s0, hp.s1, hp.s2, hp.s9, hp.s10, hp.s11, hp.s12, hp.s13]
  have HP : Hid (PreB I (LS 1) (SV 1 I) g w b c) := hp
  clear hp hI
  conv => arg 2; whnf
  go_wp2_with (at_make; refine wpList_make_full _ rfl (.tmp 116) (.tmp 116) 33 rfl I.w0.heap.size 41 i0 _ 1 Yba.underlying33 hi hz0 hz1 _ _ _ _ I.nv rfl rfl rfl rfl hb2 hb3 hsz ?_; intro w1 ho1 hg1; rw [made_one _ _ rfl] at ho1; have hB1 := (HP.out.mem.blk 18 (by decide)).grown hg1 (by simp); have sS : w1.cell? ⟨b 18, 12, none⟩ = some (.slice none 0 0) := (by rw [hB1.cell, HP.out.k18]; rfl); have fS := hB1.frozen 12; have lS := hB1.lt; clear hB1)
  refine mid_intro (by kernel_rfl) ⟨_, _, pre_new HP.out (k := 12) (by decide) (by decide) (by decide) (by decide) (fun q => rfl) hg1 ho1 ?_ _ rfl 12⟩
  rintro i (rfl | rfl | rfl | rfl | rfl | rfl | rfl | rfl)
  · rw [HP.out.s0]; kernel_rfl
  · rw [HP.out.s1]; kernel_rfl
  · rw [HP.out.s2]; kernel_rfl
  · rw [HP.out.s9]; kernel_rfl
  · rw [HP.out.s10]; kernel_rfl
  · rw [HP.out.s11]; kernel_rfl
  · rw [HP.out.s12]; kernel_rfl
  · rw [HP.out.s13]; kernel_rfl

set_option maxRecDepth 1000000 in
set_option maxHeartbeats 4000000 in
theorem it13 {I : Inp} {g : Nat → Value} {w : World} (hI : I.Ok) (h : Pre I (LS 2) (SV 2 I) g w) (Rq : Ending → World → Prop) :
    (item 13).wp Yba.prog (Exit.then (Mid (Pre I (LS 3) (SV 3 I))) (bodyPost Yba.prog Yba.f3 Rq)) (Fr g) w := by
  obtain ⟨b, c, hp⟩ := h
  obtain ⟨i0, hi, hz0, hz1, hz2⟩ := info_parts info41
  have hn : I.nr ≤ 300 := hI.r3
  have hb2 : i0.bytes * I.nr ≤ 281474976710656 := by rw [hz2]; omega
  have hb3 : I.nr ≤ maxLen := by unfold maxLen; omega
  have hsz : I.w0.heap.size ≤ w.heap.size := hp.mem.bel.size
  rw [Fr_lit, hp.s0, hp.s1, hp.s2, hp.s9, hp.s10, hp.s11, hp.s12, hp.s13]
  have HP : Hid (PreB I (LS 2) (SV 2 I) g w b c) := hp
  clear hp hI
  conv => arg 2; whnf
  go_wp2_with (at_make; refine wpList_make_full _ rfl (.tmp 122) (.tmp 122) 33 rfl I.w0.heap.size 41 i0 _ 1 Yba.underlying33 hi hz0 hz1 _ _ _ _ I.nr rfl rfl rfl rfl hb2 hb3 hsz ?_; intro w1 ho1 hg1; rw [made_one _ _ rfl] at ho1; have hB1 := (HP.out.mem.blk 18 (by decide)).grown hg1 (by simp); have sS : w1.cell? ⟨b 18, 13, none⟩ = some (.slice none 0 0) := (by rw [hB1.cell, HP.out.k18]; rfl); have fS := hB1.frozen 13; have lS := hB1.lt; clear hB1)
  refine mid_intro (by kernel_rfl) ⟨_, _, pre_new HP.out (k := 13) (by decide) (by decide) (by decide) (by decide) (fun q => rfl) hg1 ho1 ?_ _ rfl 13⟩
  rintro i (rfl | rfl | rfl | rfl | rfl | rfl | rfl | rfl)
  · rw [HP.out.s0]; kernel_rfl
  · rw [HP.out.s1]; kernel_rfl
  · rw [HP.out.s2]; kernel_rfl
  · rw [HP.out.s9]; kernel_rfl
  · rw [HP.out.s10]; kernel_rfl
  · rw [HP.out.s11]; kernel_rfl
  · rw [HP.out.s12]; kernel_rfl
  · rw [HP.out.s13]; kernel_rfl

set_option maxRecDepth 1000000 in
set_option maxHeartbeats 4000000 in
theorem it14 {I : Inp} {g : Nat → Value} {w : World} (hI : I.Ok) (h : Pre I (LS 3) (SV 3 I) g w) (Rq : Ending → World → Prop) :
    (item 14).wp Yba.prog (Exit.then (Mid (Pre I (LS 4) (SV 4 I))) (bodyPost Yba.prog Yba.f3 Rq)) (Fr g) w := by
  obtain ⟨b, c, hp⟩ := h
  obtain ⟨i0, hi, hz0, hz1, hz2⟩ := info_parts info41
  have hn : I.nr ≤ 300 := hI.r3
  have hb2 : i0.bytes * I.nr ≤ 281474976710656 := by rw [hz2]; omega
  have hb3 : I.nr ≤ maxLen := by unfold maxLen; omega
  have hsz : I.w0.heap.size ≤ w.heap.size := hp.mem.bel.size
  rw [Fr_lit, hp.s0, hp.s1, hp.s2, hp.s9, hp.s10, hp.s11, hp.s12, hp.s13]
  have HP : Hid (PreB I (LS 3) (SV 3 I) g w b c) := hp
  clear hp hI
  conv => arg 2; whnf
  go_wp2_with (at_make; refine wpList_make_full _ rfl (.tmp 128) (.tmp 128) 33 rfl I.w0.heap.size 41 i0 _ 1 Yba.underlying33 hi hz0 hz1 _ _ _ _ I.nr rfl rfl rfl rfl hb2 hb3 hsz ?_; intro w1 ho1 hg1; rw [made_one _ _ rfl] at ho1; have hB1 := (HP.out.mem.blk 18 (by decide)).grown hg1 (by simp); have sS : w1.cell? ⟨b 18, 14, none⟩ = some (.slice none 0 0) := (by rw [hB1.cell, HP.out.k18]; rfl); have fS := hB1.frozen 14; have lS := hB1.lt; clear hB1)
  refine mid_intro (by kernel_rfl) ⟨_, _, pre_new HP.out (k := 14) (by decide) (by decide) (by decide) (by decide) (fun q => rfl) hg1 ho1 ?_ _ rfl 14⟩
  rintro i (rfl | rfl | rfl | rfl | rfl | rfl | rfl | rfl)
  · rw [HP.out.s0]; kernel_rfl
  · rw [HP.out.s1]; kernel_rfl
  · rw [HP.out.s2]; kernel_rfl
  · rw [HP.out.s9]; kernel_rfl
  · rw [HP.out.s10]; kernel_rfl
  · rw [HP.out.s11]; kernel_rfl
  · rw [HP.out.s12]; kernel_rfl
  · rw [HP.out.s13]; kernel_rfl

set_option maxRecDepth 1000000 in
set_option maxHeartbeats 4000000 in
theorem it15 {I : Inp} {g : Nat → Value} {w : World} (hI : I.Ok) (h : Pre I (LS 4) (SV 4 I) g w) (Rq : Ending → World → Prop) :
    (item 15).wp Yba.prog (Exit.then (Mid (Pre I (LS 5) (SV 5 I))) (bodyPost Yba.prog Yba.f3 Rq)) (Fr g) w := by
  obtain ⟨b, c, hp⟩ := h
  obtain ⟨i0, hi, hz0, hz1, hz2⟩ := info_parts info41
  have hn : I.m ≤ 300 := (Inp.m3 hI).1
  have hb2 : i0.bytes * I.m ≤ 281474976710656 := by rw [hz2]; omega
  have hb3 : I.m ≤ maxLen := by unfold maxLen; omega
  have hsz : I.w0.heap.size ≤ w.heap.size := hp.mem.bel.size
  rw [Fr_lit, hp.s0, hp.s1, hp.s2, hp.s9, hp.s10, hp.s11, hp.s12, hp.s13]
  have HP : Hid (PreB I (LS 4) (SV 4 I) g w b c) := hp
  clear hp hI
  conv => arg 2; whnf
  go_wp2_with (at_make; refine wpList_make_full _ rfl (.tmp 134) (.tmp 134) 33 rfl I.w0.heap.size 41 i0 _ 1 Yba.underlying33 hi hz0 hz1 _ _ _ _ I.m rfl rfl rfl rfl hb2 hb3 hsz ?_; intro w1 ho1 hg1; rw [made_one _ _ rfl] at ho1; have hB1 := (HP.out.mem.blk 18 (by decide)).grown hg1 (by simp); have sS : w1.cell? ⟨b 18, 15, none⟩ = some (.slice none 0 0) := (by rw [hB1.cell, HP.out.k18]; rfl); have fS := hB1.frozen 15; have lS := hB1.lt; clear hB1)
  refine mid_intro (by kernel_rfl) ⟨_, _, pre_new HP.out (k := 15) (by decide) (by decide) (by decide) (by decide) (fun q => rfl) hg1 ho1 ?_ _ rfl 15⟩
  rintro i (rfl | rfl | rfl | rfl | rfl | rfl | rfl | rfl)
  · rw [HP.out.s0]; kernel_rfl
  · rw [HP.out.s1]; kernel_rfl
  · rw [HP.out.s2]; kernel_rfl
  · rw [HP.out.s9]; kernel_rfl
  · rw [HP.out.s10]; kernel_rfl
  · rw [HP.out.s11]; kernel_rfl
  · rw [HP.out.s12]; kernel_rfl
  · rw [HP.out.s13]; kernel_rfl

set_option maxRecDepth 1000000 in
set_option maxHeartbeats 4000000 in
theorem it16 {I : Inp} {g : Nat → Value} {w : World} (hI : I.Ok) (h : Pre I (LS 5) (SV 5 I) g w) (Rq : Ending → World → Prop) :
    (item 16).wp Yba.prog (Exit.then (Mid (Pre I (LS 6) (SV 6 I))) (bodyPost Yba.prog Yba.f3 Rq)) (Fr g) w := by
  obtain ⟨b, c, hp⟩ := h
  obtain ⟨i0, hi, hz0, hz1, hz2⟩ := info_parts info41
  have hn : I.m ≤ 300 := (Inp.m3 hI).1
  have hb2 : i0.bytes * I.m ≤ 281474976710656 := by rw [hz2]; omega
  have hb3 : I.m ≤ maxLen := by unfold maxLen; omega
  have hsz : I.w0.heap.size ≤ w.heap.size := hp.mem.bel.size
  rw [Fr_lit, hp.s0, hp.s1, hp.s2, hp.s9, hp.s10, hp.s11, hp.s12, hp.s13]
  have HP : Hid (PreB I (LS 5) (SV 5 I) g w b c) := hp
  clear hp hI
  conv => arg 2; whnf
  go_wp2_with (at_make; refine wpList_make_full _ rfl (.tmp 140) (.tmp 140) 33 rfl I.w0.heap.size 41 i0 _ 1 Yba.underlying33 hi hz0 hz1 _ _ _ _ I.m rfl rfl rfl rfl hb2 hb3 hsz ?_; intro w1 ho1 hg1; rw [made_one _ _ rfl] at ho1; have hB1 := (HP.out.mem.blk 18 (by decide)).grown hg1 (by simp); have sS : w1.cell? ⟨b 18, 16, none⟩ = some (.slice none 0 0) := (by rw [hB1.cell, HP.out.k18]; rfl); have fS := hB1.frozen 16; have lS := hB1.lt; clear hB1)
  refine mid_intro (by kernel_rfl) ⟨_, _, pre_new HP.out (k := 16) (by decide) (by decide) (by decide) (by decide) (fun q => rfl) hg1 ho1 ?_ _ rfl 16⟩
  rintro i (rfl | rfl | rfl | rfl | rfl | rfl | rfl | rfl)
  · rw [HP.out.s0]; kernel_rfl
  · rw [HP.out.s1]; kernel_rfl
  · rw [HP.out.s2]; kernel_rfl
  · rw [HP.out.s9]; kernel_rfl
  · rw [HP.out.s10]; kernel_rfl
  · rw [HP.out.s11]; kernel_rfl
  · rw [HP.out.s12]; kernel_rfl
  · rw [HP.out.s13]; kernel_rfl

theorem pre_bld {I : Inp} {g : Nat → Value} {w w' : World} {b : Nat → Nat} {c : Nat → List Value} (h : PreB I (LS 6) (SV 6 I) g w b c) {n : Nat} (hg : w.grownBy w' none) (ho : w'.ownsRow I.w0.heap.size (ty 17) 1 (.slice (some ⟨w.heap.size, 0, none⟩) n n) n (List.replicate (rlen' I 17) (rzero 17))) :
    Bld I (upd b 17 w.heap.size) w' 0 (cntOf 0 0 0) := by
  have hM := h.mem.new hg ho (by decide)
  have hsub : ∀ k ∈ LL, k ∈ 17 :: LS 6 := by decide
  have hz : ∀ k ∈ LL, k ≠ 0 → k ≠ 18 → upd c 17 (List.replicate (rlen' I 17) (rzero 17)) k = List.replicate (rlen' I k) (rzero k) := by
    intro k hk h0 h18
    by_cases e : k = 17
    · subst e; rw [upd_same]
    · rw [upd_other _ _ e]
      rcases List.mem_cons.1 (hsub k hk) with h1 | h1
      · exact absurd h1 e
      · exact h.kz k h1 h0 h18
  have hl : ∀ k ∈ TT, rlen I k = rlen' I k := by
    intro k hk
    simp only [TT, List.mem_cons, List.not_mem_nil, or_false] at hk
    rcases hk with rfl | rfl | rfl | rfl | rfl | rfl | rfl | rfl | rfl | rfl | rfl <;> rfl
  have z3 := hz 3 (by decide) (by decide) (by decide)
  have z4 := hz 4 (by decide) (by decide) (by decide)
  have hnil : ∀ (i : Nat) (v : Value), (List.replicate I.m (Value.slice none 0 0))[i]? = some v → v = .slice none 0 0 := by
    intro i v hv
    have := List.mem_of_getElem? hv
    exact (List.mem_replicate.1 this).2
  refine ⟨_, ⟨fun k hk => hM.blk k (hsub k hk), fun k hk => hM.base k (hsub k hk), fun i hi j hj e => hM.inj i (hsub i hi) j (hsub j hj) e, hM.bel⟩, ?_, ?_, ?_, ?_, ?_, ?_, ?_, ?_, ?_⟩
  · rw [upd_other _ _ (by decide)]; exact h.k0
  · rw [upd_other _ _ (by decide), h.k18]; rfl
  · intro k hk
    obtain ⟨hL, h0, h18, _⟩ := TT_LL k hk
    rw [hz k hL h0 h18, hl k hk]
    have : cntOf 0 0 0 k = 0 := by unfold cntOf; split <;> (try split) <;> rfl
    rw [this]
    exact Tab.zero
  · rw [z3]; simp [rlen']
  · intro _; rw [z3]; rfl
  · intro _ j hj; exact absurd hj (Nat.not_lt_zero _)
  · rw [z4]; simp [rlen']
  · intro i hi
    refine ⟨.slice none 0 0, 0, [], ?_, World.ownsRow_nil _ _ _ _, Nat.zero_le _, by simp [Value.ownBlock]⟩
    rw [z4]
    show (List.replicate I.m (Value.slice none 0 0))[i]? = _
    simp [hi]
  · intro i i' _ v v' h1 h2 q hq
    rw [z4] at h1
    have := hnil i v h1
    rw [this] at hq
    cases hq

set_option maxRecDepth 1000000 in
set_option maxHeartbeats 4000000 in
theorem it17 {I : Inp} {g : Nat → Value} {w : World} (hI : I.Ok) (h : Pre I (LS 6) (SV 6 I) g w) (Rq : Ending → World → Prop) :
    (item 17).wp Yba.prog (Exit.then (Mid (fun g' w' => ∃ b, Base I b g' ∧ Bld I b w' 0 (cntOf 0 0 0))) (bodyPost Yba.prog Yba.f3 Rq)) (Fr g) w := by
  obtain ⟨b, c, hp⟩ := h
  obtain ⟨i0, hi, hz0, hz1, hz2⟩ := info_parts info41
  have hn : I.m ≤ 300 := (Inp.m3 hI).1
  have hb2 : i0.bytes * I.m ≤ 281474976710656 := by rw [hz2]; omega
  have hb3 : I.m ≤ maxLen := by unfold maxLen; omega
  have hsz : I.w0.heap.size ≤ w.heap.size := hp.mem.bel.size
  rw [Fr_lit, hp.s0, hp.s1, hp.s2, hp.s9, hp.s10, hp.s11, hp.s12, hp.s13]
  have HP : Hid (PreB I (LS 6) (SV 6 I) g w b c) := hp
  clear hp hI
  conv => arg 2; whnf
  go_wp2_with (at_make; refine wpList_make_full _ rfl (.tmp 145) (.tmp 145) 33 rfl I.w0.heap.size 41 i0 _ 1 Yba.underlying33 hi hz0 hz1 _ _ _ _ I.m rfl rfl rfl rfl hb2 hb3 hsz ?_; intro w1 ho1 hg1; rw [made_one _ _ rfl] at ho1)
  refine mid_intro (by kernel_rfl) ⟨upd b 17 w.heap.size, ⟨by kernel_rfl, by kernel_rfl, by kernel_rfl, by kernel_rfl, by kernel_rfl, by kernel_rfl, by kernel_rfl, by kernel_rfl, by kernel_rfl⟩, pre_bld HP.out hg1 ho1⟩
end Go.Proofs.Ybulkbyna

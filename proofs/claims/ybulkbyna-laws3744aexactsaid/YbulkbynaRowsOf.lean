/- 'rowsOf': A v. -/
import Derived.Test.YbulkbynaMem
import Derived.Test.YbulkbynaSmallW
import Derived.BigQuiet
import Derived.Deep.QuietTactic
namespace Go.Proofs.Ybulkbyna
open Go.ChangeShapes Go.WideShapes Go.ChangeAt Go.RowKit
set_option linter.unusedVariables false

def intOf : Value → Int | .int _ q => q | _ => 0
def fadd (x y : Nat) : Nat := (FloatKind.f64.format.add x y).getD 0
def fmul (x y : Nat) : Nat := (FloatKind.f64.format.mul x y).getD 0
def fsub (x y : Nat) : Nat := (FloatKind.f64.format.sub x y).getD 0

/-- The kit has no such law for floats. -/
@[go_sem] theorem run_store_float {P : Program} (w : World) (a : Addr) (m : Mode) (k : FloatKind) (n : Nat) : (store a (.float k n) m).run P w = stored P w a (.float k n) m := run_store P w a _ m rfl

theorem info41 : (Yba.prog.info? 41).map (fun i => (i.zero, i.size, i.bytes)) = some (some (.float .f64 0), 1, 8) := by kernel_rfl
theorem zero_num : Num 0 := num_of (by decide +kernel)

/-- The columns: of each variable its entries, by row. -/
structure ColOK (w : World) (bc n nr : Nat) (el : Nat → Nat) (ri : Nat → Nat → Nat) (ev : Nat → Nat → Int) : Prop where
  cell : ∀ j, j < n → ∃ a, w.cell? ⟨bc, j, none⟩ = some (.slice a (el j) (el j)) ∧ ∀ e, e < el j → ∃ g, a = some ⟨g, 0, none⟩ ∧ g < w.heap.size ∧ ∀ e', e' < el j → w.cell? ⟨g, e' * 2, none⟩ = some (.int .i64 (ri j e')) ∧ w.cell? ⟨g, e' * 2 + 1, none⟩ = some (.float .f64 (fi (ev j e')))
  row : ∀ j, j < n → ∀ e, e < el j → ri j e < nr
  bd : ∀ j, j < n → ∀ e, e < el j → B8 (ev j e)
  len : ∀ j, j < n → el j ≤ 300

def uIn (ri : Nat → Nat → Nat) (ev : Nat → Nat → Int) (Z : Nat → Int) (j : Nat) : Nat → List Nat → List Nat
  | 0, us => us
  | e + 1, us => let vs := uIn ri ev Z j e us; vs.set (ri j e) (fadd (vs.getD (ri j e) 0) (fmul (fi (ev j e)) (fi (Z j))))
def uOut (nr : Nat) (el : Nat → Nat) (ri : Nat → Nat → Nat) (ev : Nat → Nat → Int) (Z : Nat → Int) : Nat → List Nat
  | 0 => List.replicate nr 0
  | j + 1 => uIn ri ev Z j (el j) (uOut nr el ri ev Z j)

theorem made_one (v : Value) (n : Nat) (hv : v.cells = #[v]) : (madeCells v.cells (n * 1)).toList = List.replicate n v := by
  rw [hv]
  unfold madeCells
  apply List.ext_getElem
  · simp
  · intro i h1 h2
    simp [Nat.mod_one]

/-- The sums so far are no NaN, and as many as rows. -/
structure Sums (nr : Nat) (us : List Nat) : Prop where
  len : us.length = nr
  ok : ∀ x ∈ us, ¬ NaN x
theorem Sums.get {nr : Nat} {us : List Nat} (h : Sums nr us) (k : Nat) (hk : k < nr) : ¬ NaN (us.getD k 0) ∧ us[k]? = some (us.getD k 0) := by
  have hl : k < us.length := by rw [h.len]; exact hk
  have e : us[k]? = some (us.getD k 0) := by simp [List.getD, List.getElem?_eq_getElem hl]
  exact ⟨h.ok _ (List.mem_of_getElem? e), e⟩
theorem Sums.set {nr : Nat} {us : List Nat} (h : Sums nr us) (k x : Nat) (hx : ¬ NaN x) : Sums nr (us.set k x) :=
  ⟨by rw [List.length_set]; exact h.len, fun y hy => by
    rcases List.mem_or_eq_of_mem_set hy with h1 | h1
    · exact h.ok y h1
    · rw [h1]; exact hx⟩
theorem Sums.zero (nr : Nat) : Sums nr (List.replicate nr 0) := ⟨by simp, fun x hx => by rw [(List.mem_replicate.1 hx).2]; exact zero_num.notNaN⟩

theorem prod_num {a b : Int} (ha : B8 a) (hb : B8 b) : FloatKind.f64.format.mul (fi a) (fi b) = some (fmul (fi a) (fi b)) ∧ Num (fmul (fi a) (fi b)) := by
  obtain ⟨r, e, h⟩ := mul_small (fi_small ha.1 ha.2) (fi_small hb.1 hb.2)
  unfold fmul
  rw [e]
  exact ⟨rfl, h⟩
theorem sum_ok {x y : Nat} (hx : ¬ NaN x) (hy : Num y) : FloatKind.f64.format.add x y = some (fadd x y) ∧ ¬ NaN (fadd x y) := by
  obtain ⟨r, e, h⟩ := add_ok hx hy
  unfold fadd
  rw [e]
  exact ⟨rfl, h⟩
theorem run_mul (w : World) (t : TypeId) {x y r : Nat} (h : FloatKind.f64.format.mul x y = some r) : (binOp .mul t (.float .f64 x) (.float .f64 y)).run Yba.prog w = .ok (.float .f64 r) w := run_float_arith w .mul t .f64 x y r h
theorem run_add (w : World) (t : TypeId) {x y r : Nat} (h : FloatKind.f64.format.add x y = some r) : (binOp .add t (.float .f64 x) (.float .f64 y)).run Yba.prog w = .ok (.float .f64 r) w := run_float_arith w .add t .f64 x y r h
theorem run_sub (w : World) (t : TypeId) {x y r : Nat} (h : FloatKind.f64.format.sub x y = some r) : (binOp .sub t (.float .f64 x) (.float .f64 y)).run Yba.prog w = .ok (.float .f64 r) w := run_float_arith w .sub t .f64 x y r h

set_option maxRecDepth 100000 in
set_option maxHeartbeats 4000000 in
theorem rowsOf_any (bc bz n nr : Nat) (el : Nat → Nat) (ri : Nat → Nat → Nat) (ev : Nat → Nat → Int) (Z : Nat → Int) (w : World) (hn : n ≤ 300) (hnr : nr ≤ 300) (hbc : bc < w.heap.size) (hbz : bz < w.heap.size)
    (C : ColOK w bc n nr el ri ev) (hz : ∀ j, j < n → w.cell? ⟨bz, j, none⟩ = some (.float .f64 (fi (Z j))) ∧ B8 (Z j)) :
    Calls Yba.prog 13 #[.slice (some ⟨bc, 0, none⟩) n n, .int .i64 nr, .slice (some ⟨bz, 0, none⟩) n n] w fun e w' => ∃ g, e = .returned (.slice (some ⟨g, 0, none⟩) nr nr) ∧ w.heap.size ≤ g ∧ Blk w' g 41 ((uOut nr el ri ev Z n).map (Value.float .f64)) ∧ Below w.heap.size w w' := by
  obtain ⟨i0, hi, hz0, hz1, hz2⟩ := info_parts info41
  have hb2 : i0.bytes * nr ≤ 281474976710656 := by rw [hz2]; omega
  have hb3 : nr ≤ maxLen := by unfold maxLen; omega
  have HC : Hid (ColOK w bc n nr el ri ev) := C
  have HZ : Hid (∀ j, j < n → w.cell? ⟨bz, j, none⟩ = some (.float .f64 (fi (Z j))) ∧ B8 (Z j)) := hz
  clear C hz
  go_enter Yba.func13, Yba.ntmps13
  go_wp2_with (at_make; refine wpList_make_full _ rfl (.tmp 12) (.tmp 12) 33 rfl w.heap.size 41 i0 _ 1 Yba.underlying33 hi hz0 hz1 _ _ _ _ nr rfl rfl rfl rfl hb2 hb3 (Nat.le_refl _) ?_; intro w1 ho1 hg1; have hB1 := (Blk.made ho1).1; have hb1 : Below w.heap.size w w1 := (Below.refl _ _).grown hg1 (Nat.le_refl _) (fun k h => by cases h); have H1 : Hid (Blk w1 w.heap.size 41 (madeCells (Value.float .f64 0).cells (nr * 1)).toList ∧ Below w.heap.size w w1) := ⟨hB1, hb1⟩; clear ho1 hg1 hB1 hb1)
  clear hb2 hb3
  rw [made_one _ _ rfl] at H1
  have hs1 := H1.out.2.size
  obtain ⟨g, hg⟩ : ∃ g, g = w.heap.size := ⟨_, rfl⟩
  rw [← hg] at H1
  simp only [← hg]
  have hG : Hid (g = w.heap.size) := hg
  have hgw : w.heap.size ≤ g := by omega
  have H1' : Hid (Blk w1 g 41 ((uOut nr el ri ev Z 0).map (Value.float .f64)) ∧ Below g w w1 ∧ Sums nr (uOut nr el ri ev Z 0)) := ⟨by rw [uOut, List.map_replicate]; exact H1.out.1, by rw [hg] at H1 ⊢; exact H1.out.2, Sums.zero nr⟩
  clear hg H1
  go_loopw [16] (fun i wr => ∃ j : Nat, j ≤ n ∧ i = .int .i64 j ∧ Hid (Blk wr g 41 ((uOut nr el ri ev Z j).map (Value.float .f64)) ∧ Below g w wr ∧ Sums nr (uOut nr el ri ev Z j))) (fun i _ => n - (intOf i).toNat)
  case atStart => exact ⟨0, by omega, rfl, H1'⟩
  case round =>
    clear H1' hs1
    obtain ⟨j, hj, rfl, HJ⟩ := hrel
    by_cases hjn : j < n
    · obtain ⟨a, ca, hE⟩ := HC.out.cell j hjn
      rw [← HJ.out.2.1.cell (p := ⟨bc, j, none⟩) (by show bc < g; omega)] at ca
      have cz := (HZ.out j hjn).1
      rw [← HJ.out.2.1.cell (p := ⟨bz, j, none⟩) (by show bz < g; omega)] at cz
      have HE : Hid (∀ e, e < el j → ∃ g, a = some ⟨g, 0, none⟩ ∧ g < w.heap.size ∧ ∀ e', e' < el j → w.cell? ⟨g, e' * 2, none⟩ = some (.int .i64 (ri j e')) ∧ w.cell? ⟨g, e' * 2 + 1, none⟩ = some (.float .f64 (fi (ev j e')))) := hE
      clear hE cz
      obtain ⟨wr1, hwr1⟩ : ∃ wr1, wr1 = wr := ⟨_, rfl⟩
      subst hwr1
      go_wp2
      go_loopw [23] (fun i wr => ∃ e : Nat, e ≤ el j ∧ i = .int .i64 e ∧ Hid (Blk wr g 41 ((uIn ri ev Z j e (uOut nr el ri ev Z j)).map (Value.float .f64)) ∧ Below g w wr ∧ Sums nr (uIn ri ev Z j e (uOut nr el ri ev Z j)))) (fun i _ => el j - (intOf i).toNat)
      case atStart => exact ⟨0, by omega, rfl, HJ.out⟩
      case round =>
        clear HJ
        obtain ⟨e, he, rfl, HI⟩ := hrel
        by_cases hee : e < el j
        · obtain ⟨g', rfl, hg', hcs⟩ := HE.out e hee
          obtain ⟨c0, c1⟩ := hcs e hee
          have b0 : g' < g := by omega
          rw [← HI.out.2.1.cell (p := ⟨g', e * 2, none⟩) b0] at c0
          rw [← HI.out.2.1.cell (p := ⟨g', e * 2 + 1, none⟩) b0] at c1
          have cz := (HZ.out j hjn).1
          rw [← HI.out.2.1.cell (p := ⟨bz, j, none⟩) (by show bz < g; omega)] at cz
          have hrow := HC.out.row j hjn e hee
          have hel := HC.out.len j hjn
          obtain ⟨hm, hmn⟩ := prod_num (HC.out.bd j hjn e hee) (HZ.out j hjn).2
          obtain ⟨hnn, hget⟩ := HI.out.2.2.get (ri j e) hrow
          obtain ⟨ha, han⟩ := sum_ok hnn hmn
          have cu := HI.out.1.cell (ri j e)
          rw [List.getElem?_map, hget, Option.map_some] at cu
          have fu := HI.out.1.frozen (ri j e)
          have hgl := HI.out.1.lt
          have hbr : bz < wr.heap.size := by omega
          have rm := fun W => run_mul W 41 hm
          have ra := fun W => run_add W 41 ha
          have HN : Hid (¬ NaN (fadd ((uIn ri ev Z j e (uOut nr el ri ev Z j)).getD (ri j e) 0) (fmul (fi (ev j e)) (fi (Z j))))) := han
          clear hcs hm hmn hnn hget ha han HE
          obtain ⟨x, hx⟩ : ∃ x, x = (uIn ri ev Z j e (uOut nr el ri ev Z j)).getD (ri j e) 0 := ⟨_, rfl⟩
          rw [← hx] at cu HN ra
          have hX : Hid (x = (uIn ri ev Z j e (uOut nr el ri ev Z j)).getD (ri j e) 0) := hx
          clear hx
          go_wp2
          go_big_region
          go_wp2
          refine ⟨⟨e + 1, by omega, by go_num, ?_, ?_, ?_⟩, by simp [intOf]; omega⟩
          · have hb := ((HI.out.1.set (ri j e) (.float .f64 (fadd x (fmul (fi (ev j e)) (fi (Z j)))))).alloc (.cells #[.int .i64 (ri j e), .float .f64 (fi (ev j e))] 46)).draws 1
            rw [← List.map_set] at hb
            rw [uIn, ← hX.out]
            exact hb
          · exact ((HI.out.2.1.setCell (p := ⟨g, ri j e, none⟩) (Nat.le_refl _) _).alloc (by have := HI.out.2.1.size; simp [World.setCell]; omega) _).drew
          · rw [uIn, ← hX.out]
            exact HI.out.2.2.set _ _ HN.out
        · obtain rfl : e = el j := by omega
          clear HE
          go_wp2
          exact ⟨⟨j + 1, by omega, by go_num, HI.out⟩, by simp [intOf]; omega⟩
    · obtain rfl : j = n := by omega
      go_wp2
      go_ret
      exact ⟨g, rfl, hgw, HJ.out.1, HJ.out.2.1.mono hgw⟩
end Go.Proofs.Ybulkbyna

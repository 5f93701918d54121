/- What 'residuals' computes, plainly; rows of floats; runs of float operations that may give a NaN. -/
import Derived.Test.YbulkbynaResidH
namespace Go.Proofs.Ybulkbyna
open Go.ChangeShapes Go.WideShapes Go.ChangeAt Go.RowKit
set_option linter.unusedVariables false

theorem foldset {α : Type} (d : Nat → Nat) (v : Nat → α) (t : Array α) : ∀ (R : List Nat) (t0 : Array α), t.size = t0.size → (∀ s, (∀ j ∈ R, d j ≠ s) → t[s]? = t0[s]?) → (∀ j ∈ R, t[d j]? = some (v j)) → t = R.foldl (fun t j => t.setIfInBounds (d j) (v j)) t0
  | [], t0, _, old, _ => Array.ext_getElem? (fun i => old i (by simp))
  | r :: R, t0, hs, old, new => by
    refine foldset d v t R (t0.setIfInBounds (d r) (v r)) (by simp [hs]) (fun s h => ?_) (fun j hj => new j (List.mem_cons_of_mem _ hj))
    by_cases e : d r = s
    · subst e
      have h1 := new r (by simp)
      have hlt : d r < t0.size := by rw [← hs]; exact (Array.getElem?_eq_some_iff.1 h1).1
      rw [h1, Array.getElem?_setIfInBounds_self, if_pos hlt]
    · rw [Array.getElem?_setIfInBounds_ne e]
      exact old s (fun j hj => by
        rcases List.mem_cons.1 hj with rfl | hj
        · exact e
        · exact h j hj)

/-- All of R has come up: the slots and the marks. -/
theorem St.over {R : List Nat} {dst : Nat → Nat} {a0 a : Act} {l0 l : Array Bool} {vals : Nat → Value} (h : St R dst a0 l0 [] vals a l) : a = { a0 with tmps := R.foldl (fun t j => t.setIfInBounds (dst j) (vals j)) a0.tmps } ∧ l = R.foldl (fun t j => t.setIfInBounds j true) l0 := by
  have h1 := foldset dst vals a.tmps R a0.tmps h.size (fun s hs => h.old s (fun j hj _ => hs j hj)) (fun j hj => h.new j hj (by simp))
  have h2 := foldset (fun j => j) (fun _ => true) l R l0 h.lsize (fun s hs => h.lold s (fun hc => absurd rfl (hs s hc))) (fun j hj => h.lnew j hj (by simp))
  refine ⟨?_, h2⟩
  rw [← h1, ← h.defers]

theorem run_FR {P : Program} (w : World) (op : BinOp) (hop : op = .sub ∨ op = .quo) (t : TypeId) (x y : Nat) : ∃ r q, FR op x y r ∧ (binOp op t (.float .f64 x) (.float .f64 y)).run P w = .ok (.float .f64 r) (w.drewN q) := by
  cases h : floatBits op .f64 x y with
  | some r => exact ⟨r, 0, Or.inl h, run_float_arith w op t .f64 x y r h⟩
  | none =>
    refine ⟨(Question.nanBits .f64 x y).cut (w.tape w.drawn (.nanBits .f64 x y)), 1, Or.inr ⟨h, nan_cut _ _ rfl⟩, ?_⟩
    unfold floatBits at h
    rcases hop with rfl | rfl
    · simp only at h
      simp [binOp, Op.floatArith, h, Question.forced]
      rfl
    · simp only at h
      simp [binOp, Op.floatArith, h, Question.forced]
      rfl

theorem run_MR {P : Program} (w : World) (x y : Nat) : ∃ r q, MR x y r ∧ ∀ (ts : Array TypeId) (t : TypeId), (Builtin.max_ ts t #[.float .f64 x, .float .f64 y]).run P w = .ok (.float .f64 r) (w.drewN q) := by
  cases h : FloatKind.f64.format.order x y with
  | none =>
    refine ⟨(Question.nanMinMax .f64 true x y).cut (w.tape w.drawn (.nanMinMax .f64 true x y)), 1, by unfold MR; rw [h]; exact nan_cut _ _ rfl, ?_⟩
    intro ts t
    simp [Builtin.max_, Builtin.max2, h, Question.forced]
    rfl
  | some c =>
    cases c with
    | lt => exact ⟨y, 0, by unfold MR; rw [h], by intro ts t; simp [Builtin.max_, Builtin.max2, h]; rfl⟩
    | gt => exact ⟨x, 0, by unfold MR; rw [h], by intro ts t; simp [Builtin.max_, Builtin.max2, h]; rfl⟩
    | eq => exact ⟨if (FloatKind.f64.decode x).neg then y else x, 0, by unfold MR; rw [h], by intro ts t; simp [Builtin.max_, Builtin.max2, h]; rfl⟩

/-- Of the residuals' rows: by which operation each is made. -/
def eff : Nat → Nat | 20 => 4 | 21 => 9 | 22 => 23 | 23 => 29 | _ => 31
def R5 : List Nat := [20, 21, 22, 23, 24]
theorem EI.mem {D : Dat} {wd w w0 : World} {vals : Nat → Value} {g : Nat → Nat} (h : EI D wd [] vals w g) (hb : Below w0.heap.size w0 wd) : Mem R5 (fun k => g (eff k)) (fun k => contOf D (eff k)) w0 w := by
  have hE : ∀ k ∈ R5, eff k ∈ E5 := by decide
  have hT : ∀ k ∈ R5, tyOf (eff k) = ty k := by decide
  have hI : ∀ i ∈ R5, ∀ j ∈ R5, eff i = eff j → i = j := by decide
  refine ⟨fun k hk => ?_, fun k hk => Nat.le_trans hb.size (h.got _ (hE k hk) (by simp)).1, fun i hi j hj e => ?_, hb.trans (h.bel.mono hb.size)⟩
  · rw [← hT k hk]; exact (h.got _ (hE k hk) (by simp)).2.1
  · exact hI i hi j hj (h.inj _ (hE i hi) _ (hE j hj) (by simp) (by simp) e)

def numer (D : Dat) (j : Nat) : Nat := fmul (fi (D.U (D.ui j)).w) (fi (D.F j))
def priceAt (D : Dat) (j : Nat) : Nat → Nat
  | 0 => fmul (fi (D.F j)) (fi (D.U (D.ui j)).eta)
  | e + 1 => fadd (priceAt D j e) (fmul (fi (D.ev j e)) (fi (D.R (D.ri j e)).2))
def GR (D : Dat) (j g : Nat) : Prop := FR .quo (numer D j) (fi (D.U (D.ui j)).am) g
def RdR (D : Dat) (j r : Nat) : Prop := ∃ g s, GR D j g ∧ FR .sub (priceAt D j (D.el j)) g s ∧ FR .sub s (fi (D.Nu j)) r
def ScR (D : Dat) (j r : Nat) : Prop := ∃ g, GR D j g ∧ MR g (priceAt D j (D.el j)) r
theorem GR.same {D : Dat} {j g g' : Nat} (h : GR D j g) (h' : GR D j g') : Same g g' := FR.same h h' (Same.refl _) (Same.refl _)
theorem RdR.same {D : Dat} {j r r' : Nat} (h : RdR D j r) (h' : RdR D j r') : Same r r' := by
  obtain ⟨g, s, h1, h2, h3⟩ := h
  obtain ⟨g', s', h1', h2', h3'⟩ := h'
  exact h3.same h3' (h2.same h2' (Same.refl _) (h1.same h1')) (Same.refl _)
theorem ScR.same {D : Dat} {j r r' : Nat} (h : ScR D j r) (h' : ScR D j r') : Same r r' := by
  obtain ⟨g, h1, h2⟩ := h
  obtain ⟨g', h1', h2'⟩ := h'
  exact h2.same h2' (h1.same h1') (Same.refl _)
def uAll (D : Dat) : List Nat := uOut D.nr D.el D.ri D.ev D.Z D.n
def rpOf (D : Dat) (k : Nat) : Nat := fadd ((uAll D).getD k 0) (fsub (fi (D.R k).1) one)
def rcOf (D : Dat) (i : Nat) : Nat := if (D.U i).cap then fsub (fadd (fi (D.U i).am) (fi (D.U i).c)) (fi (D.U i).lim) else 0

/-- A row of n floats, of which p tells. -/
def RowP (n : Nat) (p : Nat → Nat → Prop) (xs : List Value) : Prop := ∃ ys : List Nat, xs = ys.map (Value.float .f64) ∧ ys.length = n ∧ ∀ j, j < n → p j (ys.getD j 0)
theorem RowP.get {n : Nat} {p : Nat → Nat → Prop} {xs : List Value} (h : RowP n p xs) (j : Nat) (hj : j < n) : ∃ x, xs[j]? = some (.float .f64 x) ∧ p j x := by
  obtain ⟨ys, rfl, hl, hp⟩ := h
  refine ⟨ys.getD j 0, ?_, hp j hj⟩
  simp [List.getD, List.getElem?_eq_getElem (show j < ys.length by omega)]
theorem RowP.set {n : Nat} {p q : Nat → Nat → Prop} {xs : List Value} (h : RowP n p xs) (i x : Nat) (hx : q i x) (hq : ∀ j, j ≠ i → ∀ y, p j y → q j y) : RowP n q (xs.set i (.float .f64 x)) := by
  obtain ⟨ys, rfl, hl, hp⟩ := h
  refine ⟨ys.set i x, by rw [List.map_set], by rw [List.length_set]; exact hl, fun j hj => ?_⟩
  by_cases e : j = i
  · subst e
    simp [List.getD, show j < ys.length by omega]
    exact hx
  · have := hq j e _ (hp j hj)
    simpa [List.getD, List.getElem?_set, show i ≠ j from fun h => e h.symm] using this
theorem RowP.mono {n : Nat} {p q : Nat → Nat → Prop} {xs : List Value} (h : RowP n p xs) (hq : ∀ j, j < n → ∀ y, p j y → q j y) : RowP n q xs := by
  obtain ⟨ys, e, hl, hp⟩ := h
  exact ⟨ys, e, hl, fun j hj => hq j hj _ (hp j hj)⟩
theorem RowP.zero (n : Nat) : RowP n (fun _ x => x = 0) (List.replicate n (.float .f64 0)) := ⟨List.replicate n 0, by simp, by simp, fun j hj => by simp [List.getD, hj]⟩

theorem price_ok (D : Dat) (j : Nat) (hF : B8 (D.F j)) (hE : B8 (D.U (D.ui j)).eta) (hev : ∀ e, e < D.el j → B8 (D.ev j e)) (hlam : ∀ e, e < D.el j → B8 (D.R (D.ri j e)).2) : ∀ e, e ≤ D.el j → ¬ NaN (priceAt D j e)
  | 0, _ => (prod_num hF hE).2.notNaN
  | e + 1, h => (sum_ok (price_ok D j hF hE hev hlam e (by omega)) (prod_num (hev e (by omega)) (hlam e (by omega))).2).2
theorem uIn_sums {nr : Nat} {ri : Nat → Nat → Nat} {ev : Nat → Nat → Int} {Z : Nat → Int} {j : Nat} (n : Nat) (hri : ∀ e, e < n → ri j e < nr) (hev : ∀ e, e < n → B8 (ev j e)) (hZ : B8 (Z j)) {us : List Nat} (h : Sums nr us) : ∀ e, e ≤ n → Sums nr (uIn ri ev Z j e us)
  | 0, _ => h
  | e + 1, he => by
    have h1 := uIn_sums n hri hev hZ h e (by omega)
    exact h1.set _ _ (sum_ok (h1.get _ (hri e (by omega))).1 (prod_num (hev e (by omega)) hZ).2).2
theorem uOut_sums {nr n : Nat} {el : Nat → Nat} {ri : Nat → Nat → Nat} {ev : Nat → Nat → Int} {Z : Nat → Int} (hri : ∀ j, j < n → ∀ e, e < el j → ri j e < nr) (hev : ∀ j, j < n → ∀ e, e < el j → B8 (ev j e)) (hZ : ∀ j, j < n → B8 (Z j)) : ∀ j, j ≤ n → Sums nr (uOut nr el ri ev Z j)
  | 0, _ => Sums.zero nr
  | j + 1, hj => uIn_sums (el j) (hri j (by omega)) (hev j (by omega)) (hZ j (by omega)) (uOut_sums hri hev hZ j (by omega)) _ (Nat.le_refl _)

theorem Slv.below {w w' : World} {S : Nat} {b : Nat → Nat} {D : Dat} (h : Slv w S b D) (hb : Below w.heap.size w w') : Slv w' S b D := by
  have q : ∀ k, w'.cell? ⟨S, k, none⟩ = w.cell? ⟨S, k, none⟩ := fun k => hb.cell (p := ⟨S, k, none⟩) h.lt.1
  have r : ∀ j, j ≤ 17 → ∀ k, w'.cell? ⟨b j, k, none⟩ = w.cell? ⟨b j, k, none⟩ := fun j hj k => hb.cell (p := ⟨b j, k, none⟩) (h.lt.2 j hj)
  refine ⟨⟨Nat.lt_of_lt_of_le h.lt.1 hb.size, fun k hk => Nat.lt_of_lt_of_le (h.lt.2 k hk) hb.size⟩, h.n3, h.m3, h.r3, ?_, ?_, ?_, ?_, ?_, ?_, ?_, ?_, ?_, ?_, ?_, ?_, ?_, ?_, ?_, ?_, ?_, h.col.below hb (h.lt.2 3 (by omega))⟩
  · rw [q]; exact h.s0
  · rw [q]; exact h.s1
  · rw [q]; exact h.s2
  · rw [q]; exact h.s3
  · rw [q]; exact h.s4
  · rw [q]; exact h.s5
  · rw [q]; exact h.s6
  · rw [q]; exact h.s7
  · rw [q]; exact h.s11
  · rw [q]; exact h.s12
  · rw [q]; exact h.s13
  · rw [q]; exact h.s14
  · rw [q]; exact h.s15
  · rw [q]; exact h.s16
  · intro j hj
    rw [r 1 (by omega), r 2 (by omega), r 11 (by omega), r 12 (by omega)]
    exact h.var j hj
  · intro j hj
    rw [r 5 (by omega), r 6 (by omega), r 15 (by omega), r 16 (by omega), r 17 (by omega)]
    exact h.usr j hj
  · intro j hj
    rw [r 13 (by omega), r 14 (by omega)]
    exact h.row j hj

/-- The residuals' rows as they are being filled. -/
def S4 (D : Dat) (b' : Nat → Nat) : List Value := [.slice (some ⟨b' 20, 0, none⟩) D.n D.n, .slice (some ⟨b' 21, 0, none⟩) D.n D.n, .slice (some ⟨b' 22, 0, none⟩) D.nr D.nr, .slice (some ⟨b' 23, 0, none⟩) D.m D.m]
structure LI (D : Dat) (b' : Nat → Nat) (w wr : World) (p0 p1 p2 p3 : Nat → Nat → Prop) (c : Nat → List Value) : Prop where
  mem : Mem R5 b' c w wr
  k24 : c 24 = S4 D b'
  k20 : RowP D.n p0 (c 20)
  k21 : RowP D.n p1 (c 21)
  k22 : RowP D.nr p2 (c 22)
  k23 : RowP D.m p3 (c 23)
def LV (D : Dat) (b' : Nat → Nat) (w wr : World) (p0 p1 p2 p3 : Nat → Nat → Prop) : Prop := ∃ c, LI D b' w wr p0 p1 p2 p3 c
section
variable {D : Dat} {b' : Nat → Nat} {w wr : World} {p0 p1 p2 p3 q : Nat → Nat → Prop}
theorem LV.bel (h : LV D b' w wr p0 p1 p2 p3) : Below w.heap.size w wr := by obtain ⟨c, h⟩ := h; exact h.mem.bel
theorem LV.alloc (h : LV D b' w wr p0 p1 p2 p3) (o : Obj) : LV D b' w (wr.alloc o) p0 p1 p2 p3 := by obtain ⟨c, h⟩ := h; exact ⟨c, h.mem.alloc o, h.k24, h.k20, h.k21, h.k22, h.k23⟩
theorem LV.draws (h : LV D b' w wr p0 p1 p2 p3) (n : Nat) : LV D b' w (wr.drewN n) p0 p1 p2 p3 := by obtain ⟨c, h⟩ := h; exact ⟨c, h.mem.draws n, h.k24, h.k20, h.k21, h.k22, h.k23⟩
theorem LV.draw (h : LV D b' w wr p0 p1 p2 p3) : LV D b' w wr.drew p0 p1 p2 p3 := h.draws 1
theorem LV.var (h : LV D b' w wr p0 p1 p2 p3) (i : Nat) : wr.cell? ⟨b' 24, i, none⟩ = (S4 D b')[i]? := by obtain ⟨c, h⟩ := h; rw [← h.k24]; exact h.mem.cell (by decide) i
theorem LV.fro (h : LV D b' w wr p0 p1 p2 p3) {k : Nat} (hk : k ∈ R5) (i : Nat) : wr.frozen? ⟨b' k, i, none⟩ = false := by obtain ⟨c, h⟩ := h; exact h.mem.fro hk i
theorem LV.lt (h : LV D b' w wr p0 p1 p2 p3) {k : Nat} (hk : k ∈ R5) : b' k < wr.heap.size := by obtain ⟨c, h⟩ := h; exact h.mem.lt hk
theorem LV.get20 (h : LV D b' w wr p0 p1 p2 p3) {j : Nat} (hj : j < D.n) : ∃ x, wr.cell? ⟨b' 20, j, none⟩ = some (.float .f64 x) ∧ p0 j x := by obtain ⟨c, h⟩ := h; rw [h.mem.cell (by decide) j]; exact h.k20.get j hj
theorem LV.get21 (h : LV D b' w wr p0 p1 p2 p3) {j : Nat} (hj : j < D.n) : ∃ x, wr.cell? ⟨b' 21, j, none⟩ = some (.float .f64 x) ∧ p1 j x := by obtain ⟨c, h⟩ := h; rw [h.mem.cell (by decide) j]; exact h.k21.get j hj
theorem LV.get22 (h : LV D b' w wr p0 p1 p2 p3) {j : Nat} (hj : j < D.nr) : ∃ x, wr.cell? ⟨b' 22, j, none⟩ = some (.float .f64 x) ∧ p2 j x := by obtain ⟨c, h⟩ := h; rw [h.mem.cell (by decide) j]; exact h.k22.get j hj
theorem LV.get23 (h : LV D b' w wr p0 p1 p2 p3) {j : Nat} (hj : j < D.m) : ∃ x, wr.cell? ⟨b' 23, j, none⟩ = some (.float .f64 x) ∧ p3 j x := by obtain ⟨c, h⟩ := h; rw [h.mem.cell (by decide) j]; exact h.k23.get j hj
theorem LV.set20 (h : LV D b' w wr p0 p1 p2 p3) (i x : Nat) (hx : q i x) (hq : ∀ j, j ≠ i → ∀ y, p0 j y → q j y) : LV D b' w (wr.setCell ⟨b' 20, i, none⟩ (.float .f64 x)) q p1 p2 p3 := by
  obtain ⟨c, h⟩ := h
  exact ⟨_, h.mem.set (k := 20) (by decide) i _, by rw [upd_other _ _ (by decide)]; exact h.k24, by rw [upd_same]; exact h.k20.set i x hx hq, by rw [upd_other _ _ (by decide)]; exact h.k21, by rw [upd_other _ _ (by decide)]; exact h.k22, by rw [upd_other _ _ (by decide)]; exact h.k23⟩
theorem LV.set21 (h : LV D b' w wr p0 p1 p2 p3) (i x : Nat) (hx : q i x) (hq : ∀ j, j ≠ i → ∀ y, p1 j y → q j y) : LV D b' w (wr.setCell ⟨b' 21, i, none⟩ (.float .f64 x)) p0 q p2 p3 := by
  obtain ⟨c, h⟩ := h
  exact ⟨_, h.mem.set (k := 21) (by decide) i _, by rw [upd_other _ _ (by decide)]; exact h.k24, by rw [upd_other _ _ (by decide)]; exact h.k20, by rw [upd_same]; exact h.k21.set i x hx hq, by rw [upd_other _ _ (by decide)]; exact h.k22, by rw [upd_other _ _ (by decide)]; exact h.k23⟩
theorem LV.set22 (h : LV D b' w wr p0 p1 p2 p3) (i x : Nat) (hx : q i x) (hq : ∀ j, j ≠ i → ∀ y, p2 j y → q j y) : LV D b' w (wr.setCell ⟨b' 22, i, none⟩ (.float .f64 x)) p0 p1 q p3 := by
  obtain ⟨c, h⟩ := h
  exact ⟨_, h.mem.set (k := 22) (by decide) i _, by rw [upd_other _ _ (by decide)]; exact h.k24, by rw [upd_other _ _ (by decide)]; exact h.k20, by rw [upd_other _ _ (by decide)]; exact h.k21, by rw [upd_same]; exact h.k22.set i x hx hq, by rw [upd_other _ _ (by decide)]; exact h.k23⟩
theorem LV.set23 (h : LV D b' w wr p0 p1 p2 p3) (i x : Nat) (hx : q i x) (hq : ∀ j, j ≠ i → ∀ y, p3 j y → q j y) : LV D b' w (wr.setCell ⟨b' 23, i, none⟩ (.float .f64 x)) p0 p1 p2 q := by
  obtain ⟨c, h⟩ := h
  exact ⟨_, h.mem.set (k := 23) (by decide) i _, by rw [upd_other _ _ (by decide)]; exact h.k24, by rw [upd_other _ _ (by decide)]; exact h.k20, by rw [upd_other _ _ (by decide)]; exact h.k21, by rw [upd_other _ _ (by decide)]; exact h.k22, by rw [upd_same]; exact h.k23.set i x hx hq⟩
end
theorem LV.start {D : Dat} {b' : Nat → Nat} {w w' : World} (M : Mem R5 b' (fun k => contOf D (eff k)) w w') (hs : Sums D.nr (uAll D)) (p0 p1 : Nat → Nat → Prop) (h0 : ∀ j x, p0 j x) (h1 : ∀ j x, p1 j x) :
    LV D b' w ((((w'.setCell ⟨b' 24, 0, none⟩ (.slice (some ⟨b' 20, 0, none⟩) D.n D.n)).setCell ⟨b' 24, 1, none⟩ (.slice (some ⟨b' 21, 0, none⟩) D.n D.n)).setCell ⟨b' 24, 2, none⟩ (.slice (some ⟨b' 22, 0, none⟩) D.nr D.nr)).setCell ⟨b' 24, 3, none⟩ (.slice (some ⟨b' 23, 0, none⟩) D.m D.m)) p0 p1 (fun k x => x = (uAll D).getD k 0) (fun _ x => x = 0) := by
  have M4 := (((M.set (k := 24) (by decide) 0 (.slice (some ⟨b' 20, 0, none⟩) D.n D.n)).set (k := 24) (by decide) 1 (.slice (some ⟨b' 21, 0, none⟩) D.n D.n)).set (k := 24) (by decide) 2 (.slice (some ⟨b' 22, 0, none⟩) D.nr D.nr)).set (k := 24) (by decide) 3 (.slice (some ⟨b' 23, 0, none⟩) D.m D.m)
  refine ⟨_, M4, ?_, ?_, ?_, ?_, ?_⟩
  · rw [upd_same, upd_same, upd_same, upd_same]; rfl
  · rw [upd_other _ _ (by decide), upd_other _ _ (by decide), upd_other _ _ (by decide), upd_other _ _ (by decide)]
    exact (RowP.zero D.n).mono (fun j _ x _ => h0 j x)
  · rw [upd_other _ _ (by decide), upd_other _ _ (by decide), upd_other _ _ (by decide), upd_other _ _ (by decide)]
    exact (RowP.zero D.n).mono (fun j _ x _ => h1 j x)
  · rw [upd_other _ _ (by decide), upd_other _ _ (by decide), upd_other _ _ (by decide), upd_other _ _ (by decide)]
    exact ⟨uAll D, rfl, hs.len, fun _ _ => rfl⟩
  · rw [upd_other _ _ (by decide), upd_other _ _ (by decide), upd_other _ _ (by decide), upd_other _ _ (by decide)]
    exact RowP.zero D.m
theorem sub1_ok {n : Int} (h : B8 n) : FloatKind.f64.format.sub (fi n) 4607182418800017408 = some (fsub (fi n) one) ∧ Num (fsub (fi n) one) := by
  obtain ⟨r, e, hn⟩ := sub_one h.1 h.2
  unfold fsub
  rw [e]
  exact ⟨e, hn⟩
theorem diff_ok {x y : Nat} (hx : ¬ NaN x) (hy : Num y) : FloatKind.f64.format.sub x y = some (fsub x y) := by
  obtain ⟨r, e, _⟩ := sub_ok hx hy
  unfold fsub
  rw [e]
  rfl
theorem LV.mono {D : Dat} {b' : Nat → Nat} {w wr : World} {p0 p1 p2 p3 q2 q3 : Nat → Nat → Prop} (h : LV D b' w wr p0 p1 p2 p3) (h2 : ∀ k, k < D.nr → ∀ x, p2 k x → q2 k x) (h3 : ∀ i, i < D.m → ∀ x, p3 i x → q3 i x) : LV D b' w wr p0 p1 q2 q3 := by
  obtain ⟨c, h⟩ := h
  exact ⟨c, h.mem, h.k24, h.k20, h.k21, h.k22.mono h2, h.k23.mono h3⟩
theorem LV.finish {D : Dat} {b' : Nat → Nat} {w0 wd wr : World} (hb : Below w0.heap.size w0 wd) (hlt : w0.heap.size < wd.heap.size) (h : LV D b' wd wr (fun j' x => j' < D.n → RdR D j' x) (fun j' x => j' < D.n → ScR D j' x) (fun k x => x = rpOf D k) (fun i x => x = rcOf D i)) (u0 u1 u2 u3 : Value) :
    ∃ c, Mem [20, 21, 22, 23] b' c w0 ((((wr.setCell ⟨w0.heap.size, 0, none⟩ u0).setCell ⟨w0.heap.size, 1, none⟩ u1).setCell ⟨w0.heap.size, 2, none⟩ u2).setCell ⟨w0.heap.size, 3, none⟩ u3) ∧ RowP D.n (RdR D) (c 20) ∧ RowP D.n (ScR D) (c 21) ∧ RowP D.nr (fun k x => x = rpOf D k) (c 22) ∧ RowP D.m (fun i x => x = rcOf D i) (c 23) := by
  obtain ⟨c, h⟩ := h
  have hsub : ∀ k ∈ [20, 21, 22, 23], k ∈ R5 := by decide
  have M : Mem [20, 21, 22, 23] b' c w0 wr := ⟨fun k hk => h.mem.blk k (hsub k hk), fun k hk => Nat.le_trans hb.size (h.mem.base k (hsub k hk)), fun i hi j hj e => h.mem.inj i (hsub i hi) j (hsub j hj) e, hb.trans (h.mem.bel.mono hb.size)⟩
  have hne : ∀ k ∈ [20, 21, 22, 23], b' k ≠ w0.heap.size := fun k hk e => by have := h.mem.base k (hsub k hk); omega
  exact ⟨c, (((M.aside (Nat.le_refl _) hne 0 u0).aside (Nat.le_refl _) hne 1 u1).aside (Nat.le_refl _) hne 2 u2).aside (Nat.le_refl _) hne 3 u3, h.k20.mono (fun j hj x hx => hx hj), h.k21.mono (fun j hj x hx => hx hj), h.k22, h.k23⟩
end Go.Proofs.Ybulkbyna

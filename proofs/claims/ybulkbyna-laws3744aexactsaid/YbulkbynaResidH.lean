/- '(*solver).residuals': the first part: its rows are made. -/
import Derived.Test.YbulkbynaRowsOf
import Derived.Test.YbulkbynaOrderL
namespace Go.Proofs.Ybulkbyna
open Go.ChangeShapes Go.WideShapes Go.ChangeAt Go.RowKit
set_option linter.unusedVariables false
set_option linter.unusedSimpArgs false

/-- The plain data behind a solver. -/
structure Dat where
  n : Nat
  m : Nat
  nr : Nat
  ui : Nat → Nat
  F : Nat → Int
  Z : Nat → Int
  Nu : Nat → Int
  el : Nat → Nat
  ri : Nat → Nat → Nat
  ev : Nat → Nat → Int
  U : Nat → UserD
  R : Nat → Int × Int

def inf : Nat := 9218868437227405312
def limOf (D : Dat) (i : Nat) : Nat := if (D.U i).cap then fi (D.U i).lim else inf

/-- A solver lies at S, its rows at b 1 .. b 16, the amounts at b 17. -/
structure Slv (w : World) (S : Nat) (b : Nat → Nat) (D : Dat) : Prop where
  lt : S < w.heap.size ∧ ∀ k, k ≤ 17 → b k < w.heap.size
  n3 : D.n ≤ 300
  m3 : D.m ≤ 300
  r3 : D.nr ≤ 300
  s0 : w.cell? ⟨S, 0, none⟩ = some (.int .i64 D.n)
  s1 : w.cell? ⟨S, 1, none⟩ = some (.slice (some ⟨b 1, 0, none⟩) D.n D.n)
  s2 : w.cell? ⟨S, 2, none⟩ = some (.slice (some ⟨b 2, 0, none⟩) D.n D.n)
  s3 : w.cell? ⟨S, 3, none⟩ = some (.slice (some ⟨b 3, 0, none⟩) D.n D.n)
  s4 : w.cell? ⟨S, 4, none⟩ = some (.slice (some ⟨b 4, 0, none⟩) D.m D.m)
  s5 : w.cell? ⟨S, 5, none⟩ = some (.slice (some ⟨b 5, 0, none⟩) D.m D.m)
  s6 : w.cell? ⟨S, 6, none⟩ = some (.slice (some ⟨b 6, 0, none⟩) D.m D.m)
  s7 : w.cell? ⟨S, 7, none⟩ = some (.int .i64 D.nr)
  s11 : w.cell? ⟨S, 11, none⟩ = some (.slice (some ⟨b 11, 0, none⟩) D.n D.n)
  s12 : w.cell? ⟨S, 12, none⟩ = some (.slice (some ⟨b 12, 0, none⟩) D.n D.n)
  s13 : w.cell? ⟨S, 13, none⟩ = some (.slice (some ⟨b 13, 0, none⟩) D.nr D.nr)
  s14 : w.cell? ⟨S, 14, none⟩ = some (.slice (some ⟨b 14, 0, none⟩) D.nr D.nr)
  s15 : w.cell? ⟨S, 15, none⟩ = some (.slice (some ⟨b 15, 0, none⟩) D.m D.m)
  s16 : w.cell? ⟨S, 16, none⟩ = some (.slice (some ⟨b 16, 0, none⟩) D.m D.m)
  var : ∀ j, j < D.n → w.cell? ⟨b 1, j, none⟩ = some (.int .i64 (D.ui j)) ∧ D.ui j < D.m ∧ w.cell? ⟨b 2, j, none⟩ = some (.float .f64 (fi (D.F j))) ∧ w.cell? ⟨b 11, j, none⟩ = some (.float .f64 (fi (D.Z j))) ∧ w.cell? ⟨b 12, j, none⟩ = some (.float .f64 (fi (D.Nu j))) ∧ B8 (D.F j) ∧ B8 (D.Z j) ∧ B8 (D.Nu j)
  usr : ∀ i, i < D.m → w.cell? ⟨b 5, i, none⟩ = some (.float .f64 (fi (D.U i).w)) ∧ w.cell? ⟨b 6, i, none⟩ = some (.float .f64 (limOf D i)) ∧ w.cell? ⟨b 15, i, none⟩ = some (.float .f64 (fi (D.U i).c)) ∧ w.cell? ⟨b 16, i, none⟩ = some (.float .f64 (fi (D.U i).eta)) ∧ w.cell? ⟨b 17, i, none⟩ = some (.float .f64 (fi (D.U i).am)) ∧ B8 (D.U i).w ∧ B8 (D.U i).am ∧ B8 (D.U i).c ∧ B8 (D.U i).eta ∧ B8 (D.U i).lim
  row : ∀ k, k < D.nr → w.cell? ⟨b 13, k, none⟩ = some (.float .f64 (fi (D.R k).1)) ∧ w.cell? ⟨b 14, k, none⟩ = some (.float .f64 (fi (D.R k).2)) ∧ B8 (D.R k).1 ∧ B8 (D.R k).2
  col : ColOK w (b 3) D.n D.nr D.el D.ri D.ev

/-- A make, as an operation of a region. -/
theorem op_make {P : Program} {w : World} {o : Oper} {a : Act} {K : Act → World → Prop} {Q : Exit → Act → World → Prop} (l c : Operand) (t : TypeId) (hop : o.op = Op.makeSlice t l c)
    (base : Nat) (e : TypeId) (i : TypeInfo) (z : Value) (size : Nat) (h1 : P.underlying t = some (.slice e)) (h2 : P.info? e = some i) (h3 : i.zero = some z) (h4 : i.size = size)
    (kl kc : IntKind) (n : Nat) (hl : a.eval l = .int kl n) (hc : a.eval c = .int kc n) (b2 : i.bytes * n ≤ 281474976710656) (b3 : n ≤ maxLen) (b4 : base ≤ w.heap.size)
    (hK : ∀ w', w'.ownsRow base e size (.slice (some ⟨w.heap.size, 0, none⟩) n n) n (madeCells z.cells (n * size)).toList → w.grownBy w' none → K (a.put o.dst (.slice (some ⟨w.heap.size, 0, none⟩) n n)) w') :
    Oper.wp P o a w K Q := by
  obtain ⟨w', hrun, r1, r2⟩ := run_make_full (P := P) w base t e i z size h1 h2 h3 h4 kl kc n b2 b3 b4
  unfold Oper.wp
  simp [execOp, hop, hl, hc, hrun, Result.andThen]
  exact hK w' r1 r2

theorem blk_new (w : World) (xs : Array Value) (t : TypeId) : Blk (w.alloc (.cells xs t)) w.heap.size t xs.toList := by
  unfold Blk World.alloc
  rw [Array.getElem?_push_size]

theorem ColOK.below {w w' : World} {bc n nr : Nat} {el : Nat → Nat} {ri : Nat → Nat → Nat} {ev : Nat → Nat → Int} (h : ColOK w bc n nr el ri ev) (hb : Below w.heap.size w w') (hbc : bc < w.heap.size) : ColOK w' bc n nr el ri ev := by
  refine ⟨fun j hj => ?_, h.row, h.bd, h.len⟩
  obtain ⟨a, ca, hE⟩ := h.cell j hj
  refine ⟨a, by rw [hb.cell (p := ⟨bc, j, none⟩) hbc]; exact ca, fun e he => ?_⟩
  obtain ⟨g, ha, hg, hc⟩ := hE e he
  refine ⟨g, ha, Nat.lt_of_lt_of_le hg hb.size, fun e' he' => ?_⟩
  rw [hb.cell (p := ⟨g, e' * 2, none⟩) hg, hb.cell (p := ⟨g, e' * 2 + 1, none⟩) hg]
  exact hc e' he'

theorem wpOp_of {P : Program} {ops : Array Oper} {Q : Exit → Act → World → Prop} {i : Nat} {o : Oper} {a : Act} {w : World} {K : Act → World → Prop} (ho : ops[i]? = some o) (hw : Region.wanted o (yielded ops a.tmps) = true) (h : Oper.wp P o a w K Q) : wpOp P ops Q i K a w := by
  unfold wpOp
  simp only [ho, hw, if_true]
  exact .inl h

/-! ### The six effects of the first region: three makes, the call of rowsOf, the build, the variable. -/
def E5 : List Nat := [4, 9, 23, 29, 31]
def tyOf (j : Nat) : TypeId := if j = 31 then 51 else 41
def lenOf (D : Dat) (j : Nat) : Nat := if j = 23 then D.nr else if j = 29 then D.m else D.n
def contOf (D : Dat) (j : Nat) : List Value := if j = 31 then List.replicate 4 (.slice none 0 0) else if j = 23 then (uOut D.nr D.el D.ri D.ev D.Z D.n).map (Value.float .f64) else List.replicate (lenOf D j) (.float .f64 0)
def valOf (D : Dat) (j g : Nat) : Value := if j = 31 then .pointer (some ⟨g, 0, none⟩) else .slice (some ⟨g, 0, none⟩) (lenOf D j) (lenOf D j)

structure EI (D : Dat) (wd : World) (rem : List Nat) (vals : Nat → Value) (w : World) (g : Nat → Nat) : Prop where
  bel : Below wd.heap.size wd w
  got : ∀ j ∈ E5, j ∉ rem → wd.heap.size ≤ g j ∧ Blk w (g j) (tyOf j) (contOf D j) ∧ vals j = valOf D j (g j)
  inj : ∀ i ∈ E5, ∀ j ∈ E5, i ∉ rem → j ∉ rem → g i = g j → i = j
  bld : 30 ∉ rem → (4 ∉ rem ∧ 9 ∉ rem ∧ 23 ∉ rem ∧ 29 ∉ rem) ∧ vals 30 = .agg #[vals 4, vals 9, vals 23, vals 29]

theorem EI.fresh {D : Dat} {wd w w' : World} {rem : List Nat} {vals : Nat → Value} {g : Nat → Nat} (h : EI D wd rem vals w g) (hnd : rem.Nodup) {j G : Nat} (hj : j ∈ E5) (hjr : j ∈ rem) (hb : Below w.heap.size w w') (hG : w.heap.size ≤ G) (hB : Blk w' G (tyOf j) (contOf D j)) :
    EI D wd (rem.erase j) (updV vals j (valOf D j G)) w' (upd g j G) := by
  have hmem : ∀ i, i ∉ rem.erase j → i ≠ j → i ∉ rem := fun i h1 h2 h3 => h1 ((List.mem_erase_of_ne h2).2 h3)
  have hlt : ∀ i ∈ E5, i ∉ rem → g i < G := fun i hi hn => by have := (h.got i hi hn).2.1.lt; omega
  have h30 : (30 : Nat) ≠ j := fun e => by subst e; exact absurd hj (by decide)
  refine ⟨h.bel.trans (hb.mono h.bel.size), fun i hi hin => ?_, fun i hi k hk hin hkn e => ?_, fun hn => ?_⟩
  · by_cases e : i = j
    · subst e
      simp only [updV, if_pos, upd_same]
      exact ⟨Nat.le_trans h.bel.size hG, hB, trivial⟩
    · obtain ⟨q1, q2, q3⟩ := h.got i hi (hmem i hin e)
      rw [upd_other _ _ e]
      simp only [updV, if_neg e]
      exact ⟨q1, q2.below hb q2.lt, q3⟩
  · by_cases e1 : i = j <;> by_cases e2 : k = j
    · rw [e1, e2]
    · rw [e1, upd_same, upd_other _ _ e2] at e
      have := hlt k hk (hmem k hkn e2); omega
    · rw [e2, upd_same, upd_other _ _ e1] at e
      have := hlt i hi (hmem i hin e1); omega
    · rw [upd_other _ _ e1, upd_other _ _ e2] at e
      exact h.inj i hi k hk (hmem i hin e1) (hmem k hkn e2) e
  · obtain ⟨⟨a1, a2, a3, a4⟩, hv⟩ := h.bld (hmem 30 hn h30)
    have er : ∀ i, i ∉ rem → i ∉ rem.erase j := fun i hi hc => hi (List.mem_of_mem_erase hc)
    have ne : ∀ i, i ∉ rem → i ≠ j := fun i hi e => hi (e ▸ hjr)
    refine ⟨⟨er 4 a1, er 9 a2, er 23 a3, er 29 a4⟩, ?_⟩
    simp only [updV, if_neg h30, if_neg (ne 4 a1), if_neg (ne 9 a2), if_neg (ne 23 a3), if_neg (ne 29 a4)]
    exact hv

theorem EI.build {D : Dat} {wd w : World} {rem : List Nat} {vals : Nat → Value} {g : Nat → Nat} (h : EI D wd rem vals w g) (hnd : rem.Nodup) (h4 : 4 ∉ rem) (h9 : 9 ∉ rem) (h23 : 23 ∉ rem) (h29 : 29 ∉ rem) :
    EI D wd (rem.erase 30) (updV vals 30 (.agg #[vals 4, vals 9, vals 23, vals 29])) w g := by
  have hmem : ∀ i ∈ E5, i ∉ rem.erase 30 → i ∉ rem := fun i hi h1 h3 => h1 ((List.mem_erase_of_ne (fun e => by subst e; exact absurd hi (by decide))).2 h3)
  refine ⟨h.bel, fun i hi hin => ?_, fun i hi k hk hin hkn e => h.inj i hi k hk (hmem i hi hin) (hmem k hk hkn) e, fun _ => ?_⟩
  · have e : i ≠ 30 := fun e => by subst e; exact absurd hi (by decide)
    obtain ⟨q1, q2, q3⟩ := h.got i hi (hmem i hi hin)
    simp only [updV, if_neg e]
    exact ⟨q1, q2, q3⟩
  · have er : ∀ i, i ∉ rem → i ∉ rem.erase 30 := fun i hi hc => hi (List.mem_of_mem_erase hc)
    exact ⟨⟨er 4 h4, er 9 h9, er 23 h23, er 29 h29⟩, by simp [updV]⟩

end Go.Proofs.Ybulkbyna

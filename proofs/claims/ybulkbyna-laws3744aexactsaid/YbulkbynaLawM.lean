/- The law's memory while it builds its solver. -/
import Derived.Test.YbulkbynaLawH
import Derived.Maps.AppendAt
namespace Go.Proofs.Ybulkbyna
open Go.ChangeShapes Go.WideShapes Go.ChangeAt Go.RowKit
set_option linter.unusedVariables false

/-- What came in. -/
structure Inp where
  w0 : World
  av : Option Addr
  nv : Nat
  cv : Nat
  V : Nat → VarD
  au : Option Addr
  nu : Nat
  cu : Nat
  U : Nat → UserD
  ar : Option Addr
  nr : Nat
  cr : Nat
  R : Nat → Int × Int
structure Inp.Ok (I : Inp) : Prop where
  vs : VarsOK I.w0 I.av I.nv I.V
  us : UsersOK I.w0 I.au I.nu I.U
  rs : RowsOK I.w0 I.ar I.nr I.R
  v3 : I.nv ≤ 300
  u3 : I.nu ≤ 300
  r3 : I.nr ≤ 300
def Inp.m (I : Inp) : Nat := num I.nu
def Inp.us (I : Inp) : Nat → UserD := usr I.nu I.U
theorem Inp.m3 {I : Inp} (h : I.Ok) : I.m ≤ 300 ∧ 0 < I.m := by unfold Inp.m num; have := h.u3; split <;> omega
def dat (I : Inp) : Dat where
  n := I.nv
  m := I.m
  nr := I.nr
  ui := fun j => (I.V j).u.toNat % I.m
  F := fun j => (I.V j).f
  Z := fun j => (I.V j).z
  Nu := fun j => (I.V j).nu
  el := fun j => if I.nr = 0 then 0 else (I.V j).el
  ri := fun j e => ((I.V j).E e).1.toNat % I.nr
  ev := fun j e => ((I.V j).E e).2
  U := I.us
  R := I.R

theorem us_b8 {I : Inp} (h : I.Ok) (i : Nat) (hi : i < I.m) : B8 (I.us i).w ∧ B8 (I.us i).am ∧ B8 (I.us i).c ∧ B8 (I.us i).eta ∧ B8 (I.us i).lim := by
  unfold Inp.us usr
  by_cases h0 : I.nu = 0
  · rw [if_pos h0]
    unfold noUser B8
    exact ⟨⟨by decide, by decide⟩, ⟨by decide, by decide⟩, ⟨by decide, by decide⟩, ⟨by decide, by decide⟩, ⟨by decide, by decide⟩⟩
  · rw [if_neg h0]
    exact h.us.bd i (by unfold Inp.m num at hi; rw [if_neg h0] at hi; exact hi)

/-- The first A of n cells are as f says. -/
structure Tab (n A : Nat) (f : Nat → Value) (xs : List Value) : Prop where
  len : xs.length = n
  got : ∀ j, j < A → j < n → xs[j]? = some (f j)
theorem Tab.set {n A : Nat} {f : Nat → Value} {xs : List Value} (h : Tab n A f xs) : Tab n (A + 1) f (xs.set A (f A)) := by
  refine ⟨by rw [List.length_set]; exact h.len, fun j hj hn => ?_⟩
  by_cases e : j = A
  · subst e
    rw [List.getElem?_set_self (by rw [h.len]; exact hn)]
  · rw [List.getElem?_set_ne (fun h' => e h'.symm)]
    exact h.got j (by omega) hn
theorem Tab.some {n A : Nat} {f : Nat → Value} {xs : List Value} (h : Tab n A f xs) (j : Nat) (hj : j < n) : ∃ v, xs[j]? = some v := ⟨_, List.getElem?_eq_getElem (by rw [h.len]; exact hj)⟩
theorem Tab.zero {n : Nat} {f : Nat → Value} {v : Value} : Tab n 0 f (List.replicate n v) := ⟨by simp, fun j hj => absurd hj (Nat.not_lt_zero _)⟩

/-- The rows that are filled from the front. -/
def TT : List Nat := [1, 2, 5, 6, 11, 12, 13, 14, 15, 16, 17]
def LL : List Nat := [0, 1, 2, 3, 4, 5, 6, 11, 12, 13, 14, 15, 16, 17, 18]
def rlen (I : Inp) : Nat → Nat
  | 1 | 2 | 11 | 12 => I.nv
  | 13 | 14 => I.nr
  | _ => I.m
def rval (I : Inp) : Nat → Nat → Value
  | 1, j => .int .i64 ((dat I).ui j)
  | 2, j => .float .f64 (fi ((dat I).F j))
  | 11, j => .float .f64 (fi ((dat I).Z j))
  | 12, j => .float .f64 (fi ((dat I).Nu j))
  | 5, i => .float .f64 (fi ((dat I).U i).w)
  | 6, i => .float .f64 (limOf (dat I) i)
  | 15, i => .float .f64 (fi ((dat I).U i).c)
  | 16, i => .float .f64 (fi ((dat I).U i).eta)
  | 17, i => .float .f64 (fi ((dat I).U i).am)
  | 13, k => .float .f64 (fi ((dat I).R k).1)
  | _, k => .float .f64 (fi ((dat I).R k).2)
def sl (b n : Nat) : Value := .slice (some ⟨b, 0, none⟩) n n
/-- The solver's cells. -/
def solv (I : Inp) (b : Nat → Nat) : List Value :=
  [.int .i64 I.nv, sl (b 1) I.nv, sl (b 2) I.nv, sl (b 3) I.nv, sl (b 4) I.m, sl (b 5) I.m, sl (b 6) I.m, .int .i64 I.nr, .slice none 0 0, .slice none 0 0, .slice none 0 0,
   sl (b 11) I.nv, sl (b 12) I.nv, sl (b 13) I.nr, sl (b 14) I.nr, sl (b 15) I.m, sl (b 16) I.m, .slice none 0 0, .slice none 0 0]
def eVal (I : Inp) (j i : Nat) : Value := if i % 2 = 0 then .int .i64 ((dat I).ri j (i / 2)) else .float .f64 (fi ((dat I).ev j (i / 2)))
theorem eVal_even (I : Inp) (j e : Nat) : eVal I j (e * 2) = .int .i64 ((dat I).ri j e) := by
  unfold eVal
  rw [if_pos (by omega), show e * 2 / 2 = e by omega]
theorem eVal_odd (I : Inp) (j e : Nat) : eVal I j (e * 2 + 1) = .float .f64 (fi ((dat I).ev j e)) := by
  unfold eVal
  rw [if_neg (by omega), show (e * 2 + 1) / 2 = e by omega]
/-- A column's entries. -/
def eCells (I : Inp) (j : Nat) (n : Nat) : List Value := (List.range (n * 2)).map (eVal I j)

structure BI (I : Inp) (b : Nat → Nat) (w : World) (A : Nat) (cnt : Nat → Nat) (c : Nat → List Value) : Prop where
  mem : Mem LL b c I.w0 w
  k0 : c 0 = uCells I.us I.m
  k18 : c 18 = solv I b
  tab : ∀ k ∈ TT, Tab (rlen I k) (cnt k) (rval I k) (c k)
  l3 : (c 3).length = I.nv
  col0 : I.nr = 0 → c 3 = List.replicate I.nv (.slice none 0 0)
  col : 0 < I.nr → ∀ j, j < A → j < I.nv → ∃ a, (c 3)[j]? = some (.slice a (I.V j).el (I.V j).el) ∧ (0 < (I.V j).el → ∃ g, a = some ⟨g, 0, none⟩ ∧ Blk w g 46 (eCells I j (I.V j).el))
  l4 : (c 4).length = I.m
  own : ∀ i, i < I.m → ∃ v k ys, (c 4)[i]? = some v ∧ w.ownsRow I.w0.heap.size 3 1 v k ys ∧ k ≤ cnt 4 ∧ v.ownBlock ≠ some (b 1)
  apart : ∀ i i' : Nat, i ≠ i' → ∀ v v' : Value, (c 4)[i]? = some v → (c 4)[i']? = some v' → ∀ g, v.ownBlock = some g → v'.ownBlock ≠ some g
def Bld (I : Inp) (b : Nat → Nat) (w : World) (A : Nat) (cnt : Nat → Nat) : Prop := ∃ c, BI I b w A cnt c

/-- A row of one's own stands as long as its block does. -/
theorem own_keep {w w' : World} {base : Nat} {v : Value} {n : Nat} {ys : List Value} (h : w.ownsRow base 3 1 v n ys) (hk : ∀ g cur, v.ownBlock = some g → w.heap[g]? = some (.cells cur 3 (0, 0)) → w'.heap[g]? = some (.cells cur 3 (0, 0))) : w'.ownsRow base 3 1 v n ys := by
  refine ⟨h.1, ?_⟩
  rcases h.2 with h0 | ⟨g, cap, cur, e, h1, h2, h3⟩
  · exact Or.inl h0
  · exact Or.inr ⟨g, cap, cur, e, h1, hk g cur (by rw [e]; rfl) h2, h3⟩

section
variable {I : Inp} {b : Nat → Nat} {w w' : World} {A : Nat} {cnt : Nat → Nat} {c c' : Nat → List Value}
/-- The world has turned, but no block of entries, and no block of integers but the row 1. -/
theorem BI.keep (h : BI I b w A cnt c) (hm : Mem LL b c' I.w0 w') (h0 : c' 0 = c 0) (h18 : c' 18 = c 18) (h3 : c' 3 = c 3) (h4 : c' 4 = c 4) (cnt' : Nat → Nat) (hc4 : cnt 4 ≤ cnt' 4) (ht : ∀ k ∈ TT, Tab (rlen I k) (cnt' k) (rval I k) (c' k))
    (hk : ∀ g cur t, (t = 46 ∨ (t = 3 ∧ g ≠ b 1)) → w.heap[g]? = some (.cells cur t (0, 0)) → w'.heap[g]? = some (.cells cur t (0, 0))) : BI I b w' A cnt' c' := by
  refine ⟨hm, h0.trans h.k0, h18.trans h.k18, ht, by rw [h3]; exact h.l3, by rw [h3]; exact h.col0, ?_, by rw [h4]; exact h.l4, ?_, by rw [h4]; exact h.apart⟩
  · intro hr j hj hn
    obtain ⟨a, ca, ha⟩ := h.col hr j hj hn
    rw [h3]
    refine ⟨a, ca, fun he => ?_⟩
    obtain ⟨g, e, hB⟩ := ha he
    exact ⟨g, e, hk _ _ _ (Or.inl rfl) hB⟩
  · intro i hi
    obtain ⟨v, k, ys, q1, q2, q3, q4⟩ := h.own i hi
    rw [h4]
    exact ⟨v, k, ys, q1, own_keep q2 (fun g cur hg hc => hk g cur 3 (Or.inr ⟨rfl, fun e => q4 (by rw [hg, e])⟩) hc), Nat.le_trans q3 hc4, q4⟩
theorem Bld.alloc (h : Bld I b w A cnt) (o : Obj) : Bld I b (w.alloc o) A cnt := by
  obtain ⟨c, h⟩ := h
  exact ⟨c, h.keep (h.mem.alloc o) rfl rfl rfl rfl cnt (Nat.le_refl _) h.tab (fun g cur t _ hc => by
    have hlt : g < w.heap.size := (Array.getElem?_eq_some_iff.1 hc).1
    rw [Below.heap_alloc w o g hlt]; exact hc)⟩
theorem Bld.draws (h : Bld I b w A cnt) (n : Nat) : Bld I b (w.drewN n) A cnt := by
  obtain ⟨c, h⟩ := h
  exact ⟨c, h.keep (h.mem.draws n) rfl rfl rfl rfl cnt (Nat.le_refl _) h.tab (fun g cur t _ hc => hc)⟩
theorem Bld.congr (h : Bld I b w A cnt) (cnt' : Nat → Nat) (he : ∀ k ∈ 4 :: TT, cnt' k = cnt k) : Bld I b w A cnt' := by
  obtain ⟨c, h⟩ := h
  exact ⟨c, h.keep h.mem rfl rfl rfl rfl cnt' (Nat.le_of_eq (he 4 (by simp)).symm) (fun k hk => by rw [he k (List.mem_cons_of_mem _ hk)]; exact h.tab k hk) (fun g cur t _ hc => hc)⟩
theorem TT_LL : ∀ k ∈ TT, k ∈ LL ∧ k ≠ 0 ∧ k ≠ 18 ∧ k ≠ 3 ∧ k ≠ 4 ∧ ty k ≠ 46 ∧ (ty k = 3 → k = 1) := by decide
/-- The next cell of a row is written. -/
theorem Bld.put (h : Bld I b w A cnt) (k : Nat) (hk : k ∈ TT) : Bld I b (w.setCell ⟨b k, cnt k, none⟩ (rval I k (cnt k))) A (upd cnt k (cnt k + 1)) := by
  obtain ⟨c, h⟩ := h
  obtain ⟨hL, h0, h18, h3, h4, h46, h1⟩ := TT_LL k hk
  refine ⟨_, h.keep (h.mem.set hL (cnt k) _) (upd_other _ _ (Ne.symm h0)) (upd_other _ _ (Ne.symm h18)) (upd_other _ _ (Ne.symm h3)) (upd_other _ _ (Ne.symm h4)) _ (by rw [upd_other _ _ (Ne.symm h4)]; exact Nat.le_refl _) ?_ ?_⟩
  · intro k' hk'
    by_cases e : k' = k
    · subst e
      rw [upd_same, upd_same]
      exact (h.tab k' hk').set
    · rw [upd_other _ _ e, upd_other _ _ e]
      exact h.tab k' hk'
  · intro g cur t ht hc
    have hB := h.mem.blk k hL
    have hne : g ≠ b k := fun e => by
      rw [e] at hc
      unfold Blk at hB
      rw [hB] at hc
      have hc' := Option.some.inj hc
      simp only [Obj.cells.injEq] at hc'
      rcases ht with ht | ⟨ht, hg⟩
      · exact h46 (by rw [hc'.2.1, ht])
      · exact hg (by rw [e, h1 (by rw [hc'.2.1, ht])])
    rw [Below.heap_setCell _ _ _ _ hne]
    exact hc
theorem Bld.put_eq (h : Bld I b w A cnt) (k : Nat) (hk : k ∈ TT) (i : Nat) (hi : cnt k = i) (v : Value) (hv : rval I k i = v) : Bld I b (w.setCell ⟨b k, i, none⟩ v) A (upd cnt k (i + 1)) := by subst hi; subst hv; exact h.put k hk
theorem Bld.apart_ty (h : Bld I b w A cnt) {k p : Nat} {t : TypeId} {xs : List Value} (hk : k ∈ LL) (hp : Blk w p t xs) (ht : t ≠ ty k) : p ≠ b k := by
  obtain ⟨c, h⟩ := h
  exact hp.ne (h.mem.blk k hk) ht
theorem Bld.bel (h : Bld I b w A cnt) : Below I.w0.heap.size I.w0 w := by obtain ⟨c, h⟩ := h; exact h.mem.bel
theorem Bld.solv (h : Bld I b w A cnt) (i : Nat) : w.cell? ⟨b 18, i, none⟩ = (solv I b)[i]? := by obtain ⟨c, h⟩ := h; rw [← h.k18]; exact h.mem.cell (by decide) i
theorem Bld.lt (h : Bld I b w A cnt) {k : Nat} (hk : k ∈ LL) : b k < w.heap.size := by obtain ⟨c, h⟩ := h; exact h.mem.lt hk
theorem Bld.fro (h : Bld I b w A cnt) {k : Nat} (hk : k ∈ LL) (i : Nat) : w.frozen? ⟨b k, i, none⟩ = false := by obtain ⟨c, h⟩ := h; exact h.mem.fro hk i
theorem Bld.some (h : Bld I b w A cnt) {k : Nat} (hk : k ∈ TT) {i : Nat} (hi : i < rlen I k) : ∃ v, w.cell? ⟨b k, i, none⟩ = some v := by
  obtain ⟨c, h⟩ := h
  rw [h.mem.cell (TT_LL k hk).1 i]
  exact (h.tab k hk).some i hi
theorem Bld.got (h : Bld I b w A cnt) {k : Nat} (hk : k ∈ TT) {i : Nat} (hi : i < rlen I k) (hc : i < cnt k) : w.cell? ⟨b k, i, none⟩ = Option.some (rval I k i) := by
  obtain ⟨c, h⟩ := h
  rw [h.mem.cell (TT_LL k hk).1 i]
  exact (h.tab k hk).got i hc hi
theorem Bld.some3 (h : Bld I b w A cnt) {j : Nat} (hj : j < I.nv) : ∃ v, w.cell? ⟨b 3, j, none⟩ = Option.some v := by
  obtain ⟨c, h⟩ := h
  rw [h.mem.cell (k := 3) (by decide)]
  exact ⟨_, List.getElem?_eq_getElem (by rw [h.l3]; exact hj)⟩
theorem Bld.user (h : Bld I b w A cnt) {i k : Nat} (hi : i < I.m) (hk : k < 6) : w.cell? ⟨b 0, i * 6 + k, none⟩ = Option.some (uCell (I.us i) k) := by
  obtain ⟨c, h⟩ := h
  rw [h.mem.cell (k := 0) (by decide), h.k0]
  exact uCells_get _ _ _ _ hi hk
/-- All that is built lies below: what comes after leaves it as it is. -/
theorem Bld.below (h : Bld I b w A cnt) (hb : Below w.heap.size w w') : Bld I b w' A cnt := by
  obtain ⟨c, h⟩ := h
  refine ⟨c, h.keep ⟨fun k hk => (h.mem.blk k hk).below hb (h.mem.lt hk), h.mem.base, h.mem.inj, h.mem.bel.trans (hb.mono h.mem.bel.size)⟩ rfl rfl rfl rfl cnt (Nat.le_refl _) h.tab (fun g cur t _ hc => ?_)⟩
  rw [hb.block g (Array.getElem?_eq_some_iff.1 hc).1]
  exact hc
/-- A user's row of variables. -/
theorem Bld.slot (h : Bld I b w A cnt) {i : Nat} (hi : i < I.m) : ∃ v k ys, w.cell? ⟨b 4, i, none⟩ = Option.some v ∧ w.ownsRow I.w0.heap.size 3 1 v k ys ∧ k ≤ cnt 4 ∧ ∃ a l c, v = .slice a l c := by
  obtain ⟨c, h⟩ := h
  obtain ⟨v, k, ys, q1, q2, q3, q4⟩ := h.own i hi
  rw [h.mem.cell (k := 4) (by decide)]
  refine ⟨v, k, ys, q1, q2, q3, ?_⟩
  rcases q2.2 with ⟨e, _⟩ | ⟨g, cap, cur, e, _⟩
  · exact ⟨_, _, _, e⟩
  · exact ⟨_, _, _, e⟩
theorem own_heap {w : World} {base : Nat} {v : Value} {n g : Nat} {ys : List Value} (h : w.ownsRow base 3 1 v n ys) (hg : v.ownBlock = Option.some g) : base ≤ g ∧ ∃ cur, w.heap[g]? = Option.some (.cells cur 3 (0, 0)) := by
  rcases h.2 with ⟨e, _⟩ | ⟨g', cap, cur, e, h1, h2, _⟩
  · rw [e] at hg; cases hg
  · rw [e] at hg
    cases hg
    exact ⟨h1, cur, h2⟩
theorem Bld.own_ty (h : Bld I b w A cnt) {i p : Nat} {v : Value} {t : TypeId} {xs : List Value} (hi : i < I.m) (hc : w.cell? ⟨b 4, i, none⟩ = Option.some v) (hp : Blk w p t xs) (ht : t ≠ 3) : Option.some p ≠ v.ownBlock := by
  obtain ⟨c, h⟩ := h
  rw [h.mem.cell (k := 4) (by decide)] at hc
  obtain ⟨v0, k0, ys0, q1, q2, q3, q4⟩ := h.own i hi
  rw [q1] at hc
  obtain rfl := Option.some.inj hc
  intro e
  obtain ⟨_, cur, hcur⟩ := own_heap q2 e.symm
  unfold Blk at hp
  rw [hp] at hcur
  have := Option.some.inj hcur
  simp only [Obj.cells.injEq] at this
  exact ht this.2.1
theorem Bld.kept (h : Bld I b w A cnt) {i : Nat} {v : Value} (hi : i < I.m) (hc : w.cell? ⟨b 4, i, none⟩ = Option.some v) (hg : w.grownBy w' v.ownBlock) {k : Nat} (hk : k ∈ LL) (hk1 : k ≠ 1) (j : Nat) : w'.cell? ⟨b k, j, none⟩ = w.cell? ⟨b k, j, none⟩ ∧ w'.frozen? ⟨b k, j, none⟩ = false ∧ b k < w'.heap.size := by
  have hT : ∀ k ∈ LL, k ≠ 1 → ty k ≠ 3 := by decide
  obtain ⟨c, hc'⟩ := h
  have hB := hc'.mem.blk k hk
  have hne := Bld.own_ty ⟨c, hc'⟩ hi hc hB (hT k hk hk1)
  have hB' := hB.grown hg hne
  exact ⟨by rw [hB'.cell, hB.cell], hB'.frozen j, hB'.lt⟩
/-- It grows, and is laid back. -/
theorem Bld.grow (h : Bld I b w A cnt) {i k' : Nat} {v v' : Value} {ys' : List Value} (hi : i < I.m) (hc : w.cell? ⟨b 4, i, none⟩ = Option.some v) (ho : w'.ownsRow I.w0.heap.size 3 1 v' k' ys') (hk : k' ≤ cnt 4 + 1) (hg : w.grownBy w' v.ownBlock) (hat : v'.ownBlock = v.ownBlock ∨ v'.ownBlock = Option.some w.heap.size) :
    Bld I b (w'.setCell ⟨b 4, i, none⟩ v') A (upd cnt 4 (cnt 4 + 1)) := by
  obtain ⟨c, h⟩ := h
  rw [h.mem.cell (k := 4) (by decide)] at hc
  obtain ⟨v0, k0, ys0, q1, q2, q3, q4⟩ := h.own i hi
  rw [q1] at hc
  obtain rfl := Option.some.inj hc
  have hT : ∀ k ∈ LL, k ≠ 1 → ty k ≠ 3 := by decide
  have hrow : ∀ k ∈ LL, Option.some (b k) ≠ v0.ownBlock := fun k hk e => by
    by_cases e1 : k = 1
    · subst e1; exact q4 e.symm
    · obtain ⟨_, cur, hcur⟩ := own_heap q2 e.symm
      have hB := h.mem.blk k hk
      unfold Blk at hB
      rw [hB] at hcur
      have := Option.some.inj hcur
      simp only [Obj.cells.injEq] at this
      exact hT k hk e1 this.2.1
  have hM := (h.mem.grown hg hrow (fun k e => (own_heap q2 e).1)).set (k := 4) (by decide) i v'
  have keep : ∀ (g : Nat) (cur : Array Value) (t : TypeId), w.heap[g]? = Option.some (.cells cur t (0, 0)) → Option.some g ≠ v0.ownBlock → t ≠ 32 → (w'.setCell ⟨b 4, i, none⟩ v').heap[g]? = Option.some (.cells cur t (0, 0)) := by
    intro g cur t hcur hne ht
    have hlt : g < w.heap.size := (Array.getElem?_eq_some_iff.1 hcur).1
    have hn4 : g ≠ b 4 := fun e => by
      have hB := h.mem.blk 4 (by decide)
      unfold Blk at hB
      rw [e, hB] at hcur
      have := Option.some.inj hcur
      simp only [Obj.cells.injEq] at this
      exact ht this.2.1.symm
    rw [Below.heap_setCell _ _ _ _ hn4, hg.block g hlt hne]
    exact hcur
  have hv4 : ∀ g, v'.ownBlock = Option.some g → g ≠ b 4 := by
    intro g e e4
    have hB := h.mem.blk 4 (by decide)
    rcases hat with hat | hat
    · rw [e] at hat
      exact hrow 4 (by decide) (by rw [← e4]; exact hat)
    · rw [e] at hat
      have := Option.some.inj hat
      have := hB.lt
      omega
  refine ⟨_, hM, by rw [upd_other _ _ (by decide)]; exact h.k0, by rw [upd_other _ _ (by decide)]; exact h.k18, ?_, by rw [upd_other _ _ (by decide)]; exact h.l3, by rw [upd_other _ _ (by decide)]; exact h.col0, ?_, by rw [upd_same, List.length_set]; exact h.l4, ?_, ?_⟩
  · intro k hk
    have hk4 := (TT_LL k hk).2.2.2.2.1
    rw [upd_other _ _ hk4, upd_other _ _ hk4]
    exact h.tab k hk
  · intro hr j hj hn
    obtain ⟨a, ca, ha⟩ := h.col hr j hj hn
    rw [upd_other _ _ (by decide)]
    refine ⟨a, ca, fun he => ?_⟩
    obtain ⟨g, e, hB⟩ := ha he
    refine ⟨g, e, keep g _ 46 hB (fun e' => ?_) (by decide)⟩
    obtain ⟨_, cur, hcur⟩ := own_heap q2 e'.symm
    unfold Blk at hB
    rw [hB] at hcur
    have := Option.some.inj hcur
    simp only [Obj.cells.injEq] at this
    exact absurd this.2.1 (by decide)
  · intro i' hi'
    rw [upd_same, upd_same]
    by_cases e : i' = i
    · subst e
      refine ⟨v', k', ys', by rw [List.getElem?_set_self (by rw [h.l4]; exact hi)], own_keep ho (fun g cur hgv hcur => ?_), hk, fun e1 => ?_⟩
      · rw [Below.heap_setCell _ _ _ _ (hv4 g hgv)]; exact hcur
      · rcases hat with hat | hat
        · exact q4 (hat.symm.trans e1)
        · rw [e1] at hat
          have := Option.some.inj hat
          have := h.mem.lt (k := 1) (by decide)
          omega
    · obtain ⟨u, k, ys, r1, r2, r3, r4⟩ := h.own i' hi'
      refine ⟨u, k, ys, by rw [List.getElem?_set_ne (fun h' => e h'.symm)]; exact r1, own_keep r2 (fun g cur hgu hcur => keep g cur 3 hcur (fun e' => h.apart i' i e u v0 r1 q1 g hgu e'.symm) (by decide)), by omega, r4⟩
  · rw [upd_same]
    intro i1 i2 hne u1 u2 h1 h2 g hg1
    have old : ∀ i', i' ≠ i → ∀ u, (c 4)[i']? = Option.some u → ∀ g, u.ownBlock = Option.some g → v'.ownBlock ≠ Option.some g := by
      intro i' hne' u hu g hgu e
      have hi' : i' < I.m := by have := (List.getElem?_eq_some_iff.1 hu).1; rw [h.l4] at this; exact this
      rcases hat with hat | hat
      · exact h.apart i' i hne' u v0 hu q1 g hgu (hat.symm.trans e)
      · rw [e] at hat
        have e2 := Option.some.inj hat
        obtain ⟨u', k, ys, r1, r2, r3, r4⟩ := h.own i' hi'
        rw [hu] at r1
        obtain rfl := Option.some.inj r1
        obtain ⟨_, cur, hcur⟩ := own_heap r2 hgu
        have := (Array.getElem?_eq_some_iff.1 hcur).1
        omega
    have hil : i < (c 4).length := by rw [h.l4]; exact hi
    by_cases e1 : i1 = i
    · subst e1
      rw [List.getElem?_set_self hil] at h1
      obtain rfl := Option.some.inj h1
      rw [List.getElem?_set_ne hne] at h2
      intro e2
      exact old i2 (Ne.symm hne) u2 h2 g e2 hg1
    · rw [List.getElem?_set_ne (Ne.symm e1)] at h1
      by_cases e2 : i2 = i
      · subst e2
        rw [List.getElem?_set_self hil] at h2
        obtain rfl := Option.some.inj h2
        exact old i1 e1 u1 h1 g hg1
      · rw [List.getElem?_set_ne (Ne.symm e2)] at h2
        exact h.apart i1 i2 hne u1 u2 h1 h2 g hg1
theorem Bld.next0 (h : Bld I b w A cnt) (h0 : I.nr = 0) : Bld I b w (A + 1) cnt := by
  obtain ⟨c, h⟩ := h
  exact ⟨c, h.mem, h.k0, h.k18, h.tab, h.l3, h.col0, fun hr => by omega, h.l4, h.own, h.apart⟩
/-- A column is laid. -/
theorem Bld.column (h : Bld I b w A cnt) (hr : 0 < I.nr) (hA : A < I.nv) {q : Nat} (hq : Blk w q 46 (eCells I A (I.V A).el)) : Bld I b (w.setCell ⟨b 3, A, none⟩ (.slice (Option.some ⟨q, 0, none⟩) (I.V A).el (I.V A).el)) (A + 1) cnt := by
  obtain ⟨c, h⟩ := h
  have hM := h.mem.set (k := 3) (by decide) A (.slice (Option.some ⟨q, 0, none⟩) (I.V A).el (I.V A).el)
  have keep : ∀ (g : Nat) (cur : Array Value) (t : TypeId), w.heap[g]? = Option.some (.cells cur t (0, 0)) → t ≠ 42 → (w.setCell ⟨b 3, A, none⟩ (.slice (Option.some ⟨q, 0, none⟩) (I.V A).el (I.V A).el)).heap[g]? = Option.some (.cells cur t (0, 0)) := by
    intro g cur t hcur ht
    have hn : g ≠ b 3 := fun e => by
      have hB := h.mem.blk 3 (by decide)
      unfold Blk at hB
      rw [e, hB] at hcur
      have := Option.some.inj hcur
      simp only [Obj.cells.injEq] at this
      exact ht this.2.1.symm
    rw [Below.heap_setCell _ _ _ _ hn]
    exact hcur
  refine ⟨_, hM, by rw [upd_other _ _ (by decide)]; exact h.k0, by rw [upd_other _ _ (by decide)]; exact h.k18, ?_, by rw [upd_same, List.length_set]; exact h.l3, fun h0 => by omega, ?_, by rw [upd_other _ _ (by decide)]; exact h.l4, ?_, by rw [upd_other _ _ (by decide)]; exact h.apart⟩
  · intro k hk
    have hk3 := (TT_LL k hk).2.2.2.1
    rw [upd_other _ _ hk3]
    exact h.tab k hk
  · intro _ j hj hn
    rw [upd_same]
    by_cases e : j = A
    · subst e
      exact ⟨_, by rw [List.getElem?_set_self (by rw [h.l3]; exact hA)], fun _ => ⟨q, rfl, keep q _ 46 hq (by decide)⟩⟩
    · obtain ⟨a, ca, ha⟩ := h.col hr j (by omega) hn
      refine ⟨a, by rw [List.getElem?_set_ne (fun h' => e h'.symm)]; exact ca, fun he => ?_⟩
      obtain ⟨g, e', hB⟩ := ha he
      exact ⟨g, e', keep g _ 46 hB (by decide)⟩
  · intro i hi
    obtain ⟨v, k, ys, q1, q2, q3, q4⟩ := h.own i hi
    rw [upd_other _ _ (by decide)]
    exact ⟨v, k, ys, q1, own_keep q2 (fun g cur hg hc => keep g cur 3 hc (by decide)), q3, q4⟩
theorem Tab.eq {n : Nat} {f : Nat → Value} {xs : List Value} (h : Tab n n f xs) : xs = (List.range n).map f := by
  apply List.ext_getElem?
  intro i
  by_cases hi : i < n
  · rw [h.got i hi hi]; simp [hi]
  · rw [List.getElem?_eq_none (by rw [h.len]; omega), List.getElem?_eq_none (by simp; omega)]
end
def cntOf (A B C : Nat) (k : Nat) : Nat := if k = 4 ∨ k = 1 ∨ k = 2 ∨ k = 11 ∨ k = 12 then A else if k = 13 ∨ k = 14 then C else B

theorem own_slice {w : World} {base : Nat} {v : Value} {n : Nat} {ys : List Value} (h : w.ownsRow base 3 1 v n ys) : ∃ a l c, v = .slice a l c := by
  rcases h.2 with ⟨e, _⟩ | ⟨g', cap, cur, e, _⟩
  · exact ⟨_, _, _, e⟩
  · exact ⟨_, _, _, e⟩
/-- An append, as an operation of a region. -/
theorem op_append {P : Program} {w : World} {o : Oper} {a : Act} {K : Act → World → Prop} {Q : Exit → Act → World → Prop} (s x : Operand) (t : TypeId) (ho : o.op = Op.call { callee := Callee.builtin Builtin.append, args := #[s, x], argTypes := #[t, t] })
    (v u : Value) (hs : a.eval s = v) (hx : a.eval x = u) (v' : Value) (w' : World) (hr : (Builtin.append_ #[t, t] o.type #[v, u]).run P w = .ok v' w') (hK : K (a.put o.dst v') w') : Oper.wp P o a w K Q := by
  unfold Oper.wp execOp
  simp only [ho, resolve, invoke, builtin, Sem.run_bind, Sem.run_pure, Result.andThen_ok, List.map_toArray, List.map_cons, List.map_nil, hs, hx, hr]
  exact hK

/-! ### The frame of the law. -/
def Fr (g : Nat → Value) : Act := ⟨((List.range 566).map g).toArray, []⟩
set_option maxRecDepth 1000000 in
theorem Fr_lit (g : Nat → Value) : Fr g = ⟨#[g 0, g 1, g 2, g 3, g 4, g 5, g 6, g 7, g 8, g 9, g 10, g 11, g 12, g 13, g 14, g 15, g 16, g 17, g 18, g 19, g 20, g 21, g 22, g 23, g 24, g 25, g 26, g 27, g 28, g 29, g 30, g 31, g 32, g 33, g 34, g 35, g 36, g 37, g 38, g 39, g 40, g 41, g 42, g 43, g 44, g 45, g 46, g 47, g 48, g 49, g 50, g 51, g 52, g 53, g 54, g 55, g 56, g 57, g 58, g 59, g 60, g 61, g 62, g 63, g 64, g 65, g 66, g 67, g 68, g 69, g 70, g 71, g 72, g 73, g 74, g 75, g 76, g 77, g 78, g 79, g 80, g 81, g 82, g 83, g 84, g 85, g 86, g 87, g 88, g 89, g 90, g 91, g 92, g 93, g 94, g 95, g 96, g 97, g 98, g 99, g 100, g 101, g 102, g 103, g 104, g 105, g 106, g 107, g 108, g 109, g 110, g 111, g 112, g 113, g 114, g 115, g 116, g 117, g 118, g 119, g 120, g 121, g 122, g 123, g 124, g 125, g 126, g 127, g 128, g 129, g 130, g 131, g 132, g 133, g 134, g 135, g 136, g 137, g 138, g 139, g 140, g 141, g 142, g 143, g 144, g 145, g 146, g 147, g 148, g 149, g 150, g 151, g 152, g 153, g 154, g 155, g 156, g 157, g 158, g 159, g 160, g 161, g 162, g 163, g 164, g 165, g 166, g 167, g 168, g 169, g 170, g 171, g 172, g 173, g 174, g 175, g 176, g 177, g 178, g 179, g 180, g 181, g 182, g 183, g 184, g 185, g 186, g 187, g 188, g 189, g 190, g 191, g 192, g 193, g 194, g 195, g 196, g 197, g 198, g 199, g 200, g 201, g 202, g 203, g 204, g 205, g 206, g 207, g 208, g 209, g 210, g 211, g 212, g 213, g 214, g 215, g 216, g 217, g 218, g 219, g 220, g 221, g 222, g 223, g 224, g 225, g 226, g 227, g 228, g 229, g 230, g 231, g 232, g 233, g 234, g 235, g 236, g 237, g 238, g 239, g 240, g 241, g 242, g 243, g 244, g 245, g 246, g 247, g 248, g 249, g 250, g 251, g 252, g 253, g 254, g 255, g 256, g 257, g 258, g 259, g 260, g 261, g 262, g 263, g 264, g 265, g 266, g 267, g 268, g 269, g 270, g 271, g 272, g 273, g 274, g 275, g 276, g 277, g 278, g 279, g 280, g 281, g 282, g 283, g 284, g 285, g 286, g 287, g 288, g 289, g 290, g 291, g 292, g 293, g 294, g 295, g 296, g 297, g 298, g 299, g 300, g 301, g 302, g 303, g 304, g 305, g 306, g 307, g 308, g 309, g 310, g 311, g 312, g 313, g 314, g 315, g 316, g 317, g 318, g 319, g 320, g 321, g 322, g 323, g 324, g 325, g 326, g 327, g 328, g 329, g 330, g 331, g 332, g 333, g 334, g 335, g 336, g 337, g 338, g 339, g 340, g 341, g 342, g 343, g 344, g 345, g 346, g 347, g 348, g 349, g 350, g 351, g 352, g 353, g 354, g 355, g 356, g 357, g 358, g 359, g 360, g 361, g 362, g 363, g 364, g 365, g 366, g 367, g 368, g 369, g 370, g 371, g 372, g 373, g 374, g 375, g 376, g 377, g 378, g 379, g 380, g 381, g 382, g 383, g 384, g 385, g 386, g 387, g 388, g 389, g 390, g 391, g 392, g 393, g 394, g 395, g 396, g 397, g 398, g 399, g 400, g 401, g 402, g 403, g 404, g 405, g 406, g 407, g 408, g 409, g 410, g 411, g 412, g 413, g 414, g 415, g 416, g 417, g 418, g 419, g 420, g 421, g 422, g 423, g 424, g 425, g 426, g 427, g 428, g 429, g 430, g 431, g 432, g 433, g 434, g 435, g 436, g 437, g 438, g 439, g 440, g 441, g 442, g 443, g 444, g 445, g 446, g 447, g 448, g 449, g 450, g 451, g 452, g 453, g 454, g 455, g 456, g 457, g 458, g 459, g 460, g 461, g 462, g 463, g 464, g 465, g 466, g 467, g 468, g 469, g 470, g 471, g 472, g 473, g 474, g 475, g 476, g 477, g 478, g 479, g 480, g 481, g 482, g 483, g 484, g 485, g 486, g 487, g 488, g 489, g 490, g 491, g 492, g 493, g 494, g 495, g 496, g 497, g 498, g 499, g 500, g 501, g 502, g 503, g 504, g 505, g 506, g 507, g 508, g 509, g 510, g 511, g 512, g 513, g 514, g 515, g 516, g 517, g 518, g 519, g 520, g 521, g 522, g 523, g 524, g 525, g 526, g 527, g 528, g 529, g 530, g 531, g 532, g 533, g 534, g 535, g 536, g 537, g 538, g 539, g 540, g 541, g 542, g 543, g 544, g 545, g 546, g 547, g 548, g 549, g 550, g 551, g 552, g 553, g 554, g 555, g 556, g 557, g 558, g 559, g 560, g 561, g 562, g 563, g 564, g 565], []⟩ := rfl
theorem fr_gen (n : Nat) (t : Array Value) (h : t.size = n) : t = ((List.range n).map (fun i => t.getD i undef)).toArray := by
  apply Array.ext
  · simp [h]
  · intro i h1 h2
    simp [h1]
theorem fr_self (t : Array Value) (h : t.size = 566) : (⟨t, []⟩ : Act) = Fr (fun i => t.getD i undef) := congrArg (fun t => Act.mk t []) (fr_gen 566 t h)
def tailN : Nat → Code → Code
  | 0, c => c
  | n + 1, .seq _ b => tailN n b
  | _ + 1, c => c
def headOf : Code → Code
  | .seq a _ => a
  | c => c
noncomputable def lawBody : Code := Yba.f3.body.getD .skip
noncomputable def item (k : Nat) : Code := headOf (tailN k lawBody)
def Mid (p : (Nat → Value) → World → Prop) (a : Act) (w : World) : Prop := ∃ g', a = Fr g' ∧ p g' w
theorem mid_intro {t : Array Value} {p : (Nat → Value) → World → Prop} {w : World} (hs : t.size = 566) (h : p (fun i => t.getD i undef) w) : Mid p ⟨t, []⟩ w := ⟨_, fr_self t hs, h⟩
/-- The slots that stay. -/
structure Base (I : Inp) (b : Nat → Nat) (g : Nat → Value) : Prop where
  s0 : g 0 = .slice I.av I.nv I.cv
  s1 : g 1 = .slice I.au I.nu I.cu
  s2 : g 2 = .slice I.ar I.nr I.cr
  s9 : g 9 = .int .i64 I.m
  s10 : g 10 = .slice (some ⟨b 0, 0, none⟩) I.m I.m
  s11 : g 11 = .int .i64 I.nv
  s12 : g 12 = .int .i64 I.nr
  s13 : g 13 = .pointer (some ⟨b 18, 0, none⟩)
  s14 : g 14 = .slice (some ⟨b 17, 0, none⟩) I.m I.m
theorem seq_mid {x y : Code} {M : Act → World → Prop} {Q : Exit → Act → World → Prop} {a : Act} {w : World} (h1 : x.wp Yba.prog (Exit.then M Q) a w) (h2 : ∀ a' w', M a' w' → y.wp Yba.prog Q a' w') : (x.seq y).wp Yba.prog Q a w :=
  wp_seq (wp_mono h1 (fun e a w h => by cases e <;> first | exact h2 _ _ h | exact h))
end Go.Proofs.Ybulkbyna

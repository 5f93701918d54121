/- The law's inputs as they are read: slices of structs, one of them with slices inside. -/
import Derived.Test.YbulkbynaRows
import Derived.WalkKit
import Derived.WalkSpells
import Derived.ProofKit
import Derived.OpenShut
import Derived.Below
import Derived.Handy
import Derived.Deep.Slices
import Derived.Deep.Strs
namespace Go.Proofs.Ybulkbyna
open Go.ChangeShapes Go.WideShapes Go.ChangeAt Go.RowKit Go.Deep
set_option linter.unusedVariables false

theorem cells28 : Yba.prog.cellsOf 28 = 5 := by kernel_rfl
theorem cells30 : Yba.prog.cellsOf 30 = 6 := by kernel_rfl
theorem cells49 : Yba.prog.cellsOf 49 = 2 := by kernel_rfl
theorem cells44 : Yba.prog.cellsOf 44 = 2 := by kernel_rfl
theorem cells5 : Yba.prog.cellsOf 5 = 1 := by kernel_rfl
theorem cells25 : Yba.prog.cellsOf 25 = 1 := by kernel_rfl
theorem cells26 : Yba.prog.cellsOf 26 = 1 := by kernel_rfl
theorem cells4 : Yba.prog.cellsOf 4 = 1 := by kernel_rfl

def B8 (x : Int) : Prop := -128 ≤ x ∧ x ≤ 127
theorem b8 {x : Int} (h : (Lit.int .i8 x).wf = true) : B8 x := by
  simp [Lit.wf, IntKind.min, IntKind.max, IntKind.signed, IntKind.bits] at h
  exact h
def U8 (x : Int) : Prop := 0 ≤ x ∧ x ≤ 255
theorem u8 {x : Int} (h : (Lit.int .u8 x).wf = true) : U8 x := bounds_u8 h

structure VarD where
  u : Int
  f : Int
  z : Int
  nu : Int
  ea : Option Addr
  el : Nat
  ec : Nat
  E : Nat → Int × Int
instance : Inhabited VarD := ⟨⟨0, 0, 0, 0, none, 0, 0, fun _ => (0, 0)⟩⟩
structure UserD where
  w : Int
  am : Int
  c : Int
  eta : Int
  lim : Int
  cap : Bool
instance : Inhabited UserD := ⟨⟨0, 0, 0, 0, 0, false⟩⟩

structure EntsOK (w : World) (a : Option Addr) (n : Nat) (E : Nat → Int × Int) : Prop where
  le : ∃ c, n ≤ c ∧ c ≤ maxLen
  cells : ∀ i, i < n → ∃ b off, a = some ⟨b, off, none⟩ ∧ b < w.heap.size ∧ ∀ j, j < n → w.cell? ⟨b, off + j * 2, none⟩ = some (.int .u8 (E j).1) ∧ w.cell? ⟨b, off + j * 2 + 1, none⟩ = some (.int .i8 (E j).2)
  bd : ∀ i, i < n → U8 (E i).1 ∧ B8 (E i).2
structure RowsOK (w : World) (a : Option Addr) (n : Nat) (R : Nat → Int × Int) : Prop where
  cells : ∀ i, i < n → ∃ b off, a = some ⟨b, off, none⟩ ∧ b < w.heap.size ∧ ∀ j, j < n → w.cell? ⟨b, off + j * 2, none⟩ = some (.int .i8 (R j).1) ∧ w.cell? ⟨b, off + j * 2 + 1, none⟩ = some (.int .i8 (R j).2)
  bd : ∀ i, i < n → B8 (R i).1 ∧ B8 (R i).2
structure UsersOK (w : World) (a : Option Addr) (n : Nat) (U : Nat → UserD) : Prop where
  cells : ∀ i, i < n → ∃ b off, a = some ⟨b, off, none⟩ ∧ b < w.heap.size ∧ ∀ j, j < n → w.cell? ⟨b, off + j * 6, none⟩ = some (.int .i8 (U j).w) ∧ w.cell? ⟨b, off + j * 6 + 1, none⟩ = some (.int .i8 (U j).am) ∧ w.cell? ⟨b, off + j * 6 + 2, none⟩ = some (.int .i8 (U j).c) ∧ w.cell? ⟨b, off + j * 6 + 3, none⟩ = some (.int .i8 (U j).eta) ∧ w.cell? ⟨b, off + j * 6 + 4, none⟩ = some (.int .i8 (U j).lim) ∧ w.cell? ⟨b, off + j * 6 + 5, none⟩ = some (.bool (U j).cap)
  bd : ∀ i, i < n → B8 (U i).w ∧ B8 (U i).am ∧ B8 (U i).c ∧ B8 (U i).eta ∧ B8 (U i).lim
structure VarsOK (w : World) (a : Option Addr) (n : Nat) (V : Nat → VarD) : Prop where
  cells : ∀ i, i < n → ∃ b off, a = some ⟨b, off, none⟩ ∧ b < w.heap.size ∧ ∀ j, j < n → w.cell? ⟨b, off + j * 5, none⟩ = some (.int .u8 (V j).u) ∧ w.cell? ⟨b, off + j * 5 + 1, none⟩ = some (.int .i8 (V j).f) ∧ w.cell? ⟨b, off + j * 5 + 2, none⟩ = some (.int .i8 (V j).z) ∧ w.cell? ⟨b, off + j * 5 + 3, none⟩ = some (.int .i8 (V j).nu) ∧ w.cell? ⟨b, off + j * 5 + 4, none⟩ = some (.slice (V j).ea (V j).el (V j).ec)
  bd : ∀ i, i < n → U8 (V i).u ∧ B8 (V i).f ∧ B8 (V i).z ∧ B8 (V i).nu
  ents : ∀ i, i < n → EntsOK w (V i).ea (V i).el (V i).E

section
variable {H : Type} {enc : TypeId × Value → H} {w : World} {base : Nat} {spare : Nat → Bool} {held : Bool}

theorem addr_lit {ad : Addr} {v : Value} (h : w.cell? (ad.add 0) = some v) : ∃ b off, ad = ⟨b, off, none⟩ := by
  obtain ⟨b, off, s⟩ := ad
  have hs : s = none := by simpa [Addr.add] using World.cell?_spot h
  exact ⟨b, off, by rw [hs]⟩

set_option maxRecDepth 100000 in
theorem ents_open {fuel : Nat} {a : Option Addr} {len cap : Nat} {x : DataW H × List MemPlace} (hf : DataW.trod enc Yba.prog w base spare held fuel 26 [.slice a len cap] = some x) : ∃ E, EntsOK w a len E := by
  rcases open_slice Yba.underlying26 hf with ⟨hcs, _⟩ | ⟨ad, l, c, m, n, D, Pl, hcs, hb, hl, hm, hmm, _, hx⟩
  · simp at hcs
    obtain ⟨rfl, rfl, rfl⟩ := hcs
    exact ⟨fun _ => (0, 0), ⟨0, by omega, by omega⟩, fun i hi => by omega, fun i hi => by omega⟩
  · simp at hcs
    obtain ⟨rfl, rfl, rfl⟩ := hcs
    have hlm : len ≤ m := by rw [hmm]; split <;> omega
    have each : ∀ i, i < len → ∃ t : Int × Int, w.cell? (ad.add (i * 2)) = some (.int .u8 t.1) ∧ w.cell? (ad.add (i * 2 + 1)) = some (.int .i8 t.2) ∧ U8 t.1 ∧ B8 t.2 := by
      intro i hi
      obtain ⟨cs', h1, h2⟩ := hx i (by omega)
      rw [cells44] at h1
      obtain ⟨xs, k, _, _, hl2, hlen, hfd⟩ := DataW.trod_struct Yba.underlying44 h2
      rw [cells44] at hl2
      have gets : ∀ k, k < 2 → ∃ y, xs[k]? = some y := fun k hk => ⟨_, List.getElem?_eq_getElem (show k < xs.length by rw [hlen]; exact hk)⟩
      match cs', hl2 with
      | [c0, c1], _ =>
        obtain ⟨y0, hy0⟩ := gets 0 (by omega)
        obtain ⟨a0, e0, _, b0⟩ := DataW.trod_int Yba.underlying5 ((by have := hfd 0 _ rfl; rw [hy0] at this; simpa [cells5] using this) : DataW.trod enc Yba.prog w base spare held k 5 [c0] = some y0)
        obtain ⟨y1, hy1⟩ := gets 1 (by omega)
        obtain ⟨a1, e1, _, b1⟩ := DataW.trod_int Yba.underlying25 ((by have := hfd 1 _ rfl; rw [hy1] at this; simpa [cells25] using this) : DataW.trod enc Yba.prog w base spare held k 25 [c1] = some y1)
        simp at e0 e1
        subst e0 e1
        obtain ⟨_, _, hc⟩ := World.cells?_some h1
        have q0 := hc 0 (by omega)
        have q1 := hc 1 (by omega)
        rw [add_add] at q0 q1
        exact ⟨(a0, a1), q0, q1, u8 b0, b8 b1⟩
    obtain ⟨E, hE⟩ := choose_lt each
    refine ⟨E, ⟨cap, hl, hm⟩, fun i hi => ?_, fun i hi => (hE i hi).2.2⟩
    obtain ⟨b, off, rfl⟩ := addr_lit (by have := (hE 0 (by omega)).1; rwa [Nat.zero_mul] at this)
    refine ⟨b, off, rfl, World.block_lt_of_cell? w ⟨b, off + i * 2, none⟩ (by have := (hE i hi).1; rwa [Addr.add_lit] at this), fun j hj => ?_⟩
    have := hE j hj
    rw [Addr.add_lit, Addr.add_lit] at this
    exact ⟨this.1, this.2.1⟩

set_option maxRecDepth 100000 in
theorem rows_open {fuel : Nat} {a : Option Addr} {len cap : Nat} {x : DataW H × List MemPlace} (hf : DataW.trod enc Yba.prog w base spare held fuel 24 [.slice a len cap] = some x) : ∃ R, RowsOK w a len R := by
  rcases open_slice Yba.underlying24 hf with ⟨hcs, _⟩ | ⟨ad, l, c, m, n, D, Pl, hcs, hb, hl, hm, hmm, _, hx⟩
  · simp at hcs
    obtain ⟨rfl, rfl, rfl⟩ := hcs
    exact ⟨fun _ => (0, 0), fun i hi => by omega, fun i hi => by omega⟩
  · simp at hcs
    obtain ⟨rfl, rfl, rfl⟩ := hcs
    have hlm : len ≤ m := by rw [hmm]; split <;> omega
    have each : ∀ i, i < len → ∃ t : Int × Int, w.cell? (ad.add (i * 2)) = some (.int .i8 t.1) ∧ w.cell? (ad.add (i * 2 + 1)) = some (.int .i8 t.2) ∧ B8 t.1 ∧ B8 t.2 := by
      intro i hi
      obtain ⟨cs', h1, h2⟩ := hx i (by omega)
      rw [cells49] at h1
      obtain ⟨xs, k, _, _, hl2, hlen, hfd⟩ := DataW.trod_struct Yba.underlying49 h2
      rw [cells49] at hl2
      have gets : ∀ k, k < 2 → ∃ y, xs[k]? = some y := fun k hk => ⟨_, List.getElem?_eq_getElem (show k < xs.length by rw [hlen]; exact hk)⟩
      match cs', hl2 with
      | [c0, c1], _ =>
        obtain ⟨y0, hy0⟩ := gets 0 (by omega)
        obtain ⟨a0, e0, _, b0⟩ := DataW.trod_int Yba.underlying25 ((by have := hfd 0 _ rfl; rw [hy0] at this; simpa [cells25] using this) : DataW.trod enc Yba.prog w base spare held k 25 [c0] = some y0)
        obtain ⟨y1, hy1⟩ := gets 1 (by omega)
        obtain ⟨a1, e1, _, b1⟩ := DataW.trod_int Yba.underlying25 ((by have := hfd 1 _ rfl; rw [hy1] at this; simpa [cells25] using this) : DataW.trod enc Yba.prog w base spare held k 25 [c1] = some y1)
        simp at e0 e1
        subst e0 e1
        obtain ⟨_, _, hc⟩ := World.cells?_some h1
        have q0 := hc 0 (by omega)
        have q1 := hc 1 (by omega)
        rw [add_add] at q0 q1
        exact ⟨(a0, a1), q0, q1, b8 b0, b8 b1⟩
    obtain ⟨E, hE⟩ := choose_lt each
    refine ⟨E, fun i hi => ?_, fun i hi => (hE i hi).2.2⟩
    obtain ⟨b, off, rfl⟩ := addr_lit (by have := (hE 0 (by omega)).1; rwa [Nat.zero_mul] at this)
    refine ⟨b, off, rfl, World.block_lt_of_cell? w ⟨b, off + i * 2, none⟩ (by have := (hE i hi).1; rwa [Addr.add_lit] at this), fun j hj => ?_⟩
    have := hE j hj
    rw [Addr.add_lit, Addr.add_lit] at this
    exact ⟨this.1, this.2.1⟩

set_option maxRecDepth 100000 in
theorem users_open {fuel : Nat} {a : Option Addr} {len cap : Nat} {x : DataW H × List MemPlace} (hf : DataW.trod enc Yba.prog w base spare held fuel 23 [.slice a len cap] = some x) : ∃ U, UsersOK w a len U := by
  rcases open_slice Yba.underlying23 hf with ⟨hcs, _⟩ | ⟨ad, l, c, m, n, D, Pl, hcs, hb, hl, hm, hmm, _, hx⟩
  · simp at hcs
    obtain ⟨rfl, rfl, rfl⟩ := hcs
    exact ⟨fun _ => default, fun i hi => by omega, fun i hi => by omega⟩
  · simp at hcs
    obtain ⟨rfl, rfl, rfl⟩ := hcs
    have hlm : len ≤ m := by rw [hmm]; split <;> omega
    have each : ∀ i, i < len → ∃ t : UserD, (w.cell? (ad.add (i * 6)) = some (.int .i8 t.w) ∧ w.cell? (ad.add (i * 6 + 1)) = some (.int .i8 t.am) ∧ w.cell? (ad.add (i * 6 + 2)) = some (.int .i8 t.c) ∧ w.cell? (ad.add (i * 6 + 3)) = some (.int .i8 t.eta) ∧ w.cell? (ad.add (i * 6 + 4)) = some (.int .i8 t.lim) ∧ w.cell? (ad.add (i * 6 + 5)) = some (.bool t.cap)) ∧ B8 t.w ∧ B8 t.am ∧ B8 t.c ∧ B8 t.eta ∧ B8 t.lim := by
      intro i hi
      obtain ⟨cs', h1, h2⟩ := hx i (by omega)
      rw [cells30] at h1
      obtain ⟨xs, k, _, _, hl2, hlen, hfd⟩ := DataW.trod_struct Yba.underlying30 h2
      rw [cells30] at hl2
      have gets : ∀ k, k < 6 → ∃ y, xs[k]? = some y := fun k hk => ⟨_, List.getElem?_eq_getElem (show k < xs.length by rw [hlen]; exact hk)⟩
      match cs', hl2 with
      | [c0, c1, c2, c3, c4, c5], _ =>
        obtain ⟨y0, hy0⟩ := gets 0 (by omega)
        obtain ⟨a0, e0, _, b0⟩ := DataW.trod_int Yba.underlying25 ((by have := hfd 0 _ rfl; rw [hy0] at this; simpa [cells25] using this) : DataW.trod enc Yba.prog w base spare held k 25 [c0] = some y0)
        obtain ⟨y1, hy1⟩ := gets 1 (by omega)
        obtain ⟨a1, e1, _, b1⟩ := DataW.trod_int Yba.underlying25 ((by have := hfd 1 _ rfl; rw [hy1] at this; simpa [cells25] using this) : DataW.trod enc Yba.prog w base spare held k 25 [c1] = some y1)
        obtain ⟨y2, hy2⟩ := gets 2 (by omega)
        obtain ⟨a2, e2, _, b2⟩ := DataW.trod_int Yba.underlying25 ((by have := hfd 2 _ rfl; rw [hy2] at this; simpa [cells25] using this) : DataW.trod enc Yba.prog w base spare held k 25 [c2] = some y2)
        obtain ⟨y3, hy3⟩ := gets 3 (by omega)
        obtain ⟨a3, e3, _, b3⟩ := DataW.trod_int Yba.underlying25 ((by have := hfd 3 _ rfl; rw [hy3] at this; simpa [cells25] using this) : DataW.trod enc Yba.prog w base spare held k 25 [c3] = some y3)
        obtain ⟨y4, hy4⟩ := gets 4 (by omega)
        obtain ⟨a4, e4, _, b4⟩ := DataW.trod_int Yba.underlying25 ((by have := hfd 4 _ rfl; rw [hy4] at this; simpa [cells25] using this) : DataW.trod enc Yba.prog w base spare held k 25 [c4] = some y4)
        obtain ⟨y5, hy5⟩ := gets 5 (by omega)
        obtain ⟨a5, e5, _⟩ := DataW.trod_bool Yba.underlying4 ((by have := hfd 5 _ rfl; rw [hy5] at this; simpa [cells4] using this) : DataW.trod enc Yba.prog w base spare held k 4 [c5] = some y5)
        simp at e0 e1 e2 e3 e4 e5
        subst e0 e1 e2 e3 e4 e5
        obtain ⟨_, _, hc⟩ := World.cells?_some h1
        have q0 := hc 0 (by omega)
        have q1 := hc 1 (by omega)
        have q2 := hc 2 (by omega)
        have q3 := hc 3 (by omega)
        have q4 := hc 4 (by omega)
        have q5 := hc 5 (by omega)
        rw [add_add] at q0 q1 q2 q3 q4 q5
        exact ⟨⟨a0, a1, a2, a3, a4, a5⟩, ⟨q0, q1, q2, q3, q4, q5⟩, b8 b0, b8 b1, b8 b2, b8 b3, b8 b4⟩
    obtain ⟨E, hE⟩ := choose_lt each
    refine ⟨E, fun i hi => ?_, fun i hi => (hE i hi).2⟩
    obtain ⟨b, off, rfl⟩ := addr_lit (by have := (hE 0 (by omega)).1.1; rwa [Nat.zero_mul] at this)
    refine ⟨b, off, rfl, World.block_lt_of_cell? w ⟨b, off + i * 6, none⟩ (by have := (hE i hi).1.1; rwa [Addr.add_lit] at this), fun j hj => ?_⟩
    have := (hE j hj).1
    rw [Addr.add_lit, Addr.add_lit, Addr.add_lit, Addr.add_lit, Addr.add_lit, Addr.add_lit] at this
    exact this

set_option maxRecDepth 100000 in
theorem vars_open {fuel : Nat} {a : Option Addr} {len cap : Nat} {x : DataW H × List MemPlace} (hf : DataW.trod enc Yba.prog w base spare held fuel 22 [.slice a len cap] = some x) : ∃ V, VarsOK w a len V := by
  rcases open_slice Yba.underlying22 hf with ⟨hcs, _⟩ | ⟨ad, l, c, m, n, D, Pl, hcs, hb, hl, hm, hmm, _, hx⟩
  · simp at hcs
    obtain ⟨rfl, rfl, rfl⟩ := hcs
    exact ⟨fun _ => default, fun i hi => by omega, fun i hi => by omega, fun i hi => by omega⟩
  · simp at hcs
    obtain ⟨rfl, rfl, rfl⟩ := hcs
    have hlm : len ≤ m := by rw [hmm]; split <;> omega
    have each : ∀ i, i < len → ∃ t : VarD, (w.cell? (ad.add (i * 5)) = some (.int .u8 t.u) ∧ w.cell? (ad.add (i * 5 + 1)) = some (.int .i8 t.f) ∧ w.cell? (ad.add (i * 5 + 2)) = some (.int .i8 t.z) ∧ w.cell? (ad.add (i * 5 + 3)) = some (.int .i8 t.nu) ∧ w.cell? (ad.add (i * 5 + 4)) = some (.slice t.ea t.el t.ec)) ∧ (U8 t.u ∧ B8 t.f ∧ B8 t.z ∧ B8 t.nu) ∧ EntsOK w t.ea t.el t.E := by
      intro i hi
      obtain ⟨cs', h1, h2⟩ := hx i (by omega)
      rw [cells28] at h1
      obtain ⟨xs, k, _, _, hl2, hlen, hfd⟩ := DataW.trod_struct Yba.underlying28 h2
      rw [cells28] at hl2
      have gets : ∀ k, k < 5 → ∃ y, xs[k]? = some y := fun k hk => ⟨_, List.getElem?_eq_getElem (show k < xs.length by rw [hlen]; exact hk)⟩
      match cs', hl2 with
      | [c0, c1, c2, c3, c4], _ =>
        obtain ⟨y0, hy0⟩ := gets 0 (by omega)
        obtain ⟨a0, e0, _, b0⟩ := DataW.trod_int Yba.underlying5 ((by have := hfd 0 _ rfl; rw [hy0] at this; simpa [cells5] using this) : DataW.trod enc Yba.prog w base spare held k 5 [c0] = some y0)
        obtain ⟨y1, hy1⟩ := gets 1 (by omega)
        obtain ⟨a1, e1, _, b1⟩ := DataW.trod_int Yba.underlying25 ((by have := hfd 1 _ rfl; rw [hy1] at this; simpa [cells25] using this) : DataW.trod enc Yba.prog w base spare held k 25 [c1] = some y1)
        obtain ⟨y2, hy2⟩ := gets 2 (by omega)
        obtain ⟨a2, e2, _, b2⟩ := DataW.trod_int Yba.underlying25 ((by have := hfd 2 _ rfl; rw [hy2] at this; simpa [cells25] using this) : DataW.trod enc Yba.prog w base spare held k 25 [c2] = some y2)
        obtain ⟨y3, hy3⟩ := gets 3 (by omega)
        obtain ⟨a3, e3, _, b3⟩ := DataW.trod_int Yba.underlying25 ((by have := hfd 3 _ rfl; rw [hy3] at this; simpa [cells25] using this) : DataW.trod enc Yba.prog w base spare held k 25 [c3] = some y3)
        obtain ⟨y4, hy4⟩ := gets 4 (by omega)
        have q : DataW.trod enc Yba.prog w base spare held k 26 [c4] = some y4 := by have := hfd 4 _ rfl; rw [hy4] at this; simpa [cells26] using this
        simp at e0 e1 e2 e3
        subst e0 e1 e2 e3
        obtain ⟨_, _, hc⟩ := World.cells?_some h1
        have q0 := hc 0 (by omega)
        have q1 := hc 1 (by omega)
        have q2 := hc 2 (by omega)
        have q3 := hc 3 (by omega)
        have q4 := hc 4 (by omega)
        rw [add_add] at q0 q1 q2 q3 q4
        obtain ⟨a4, l4, k4, rfl⟩ : ∃ a l c, c4 = .slice a l c := by
          rcases open_slice Yba.underlying26 q with ⟨hcs, _⟩ | ⟨ad', l', c', m', n', D', Pl', hcs, _⟩
          · simp at hcs; exact ⟨_, _, _, hcs⟩
          · simp at hcs; exact ⟨_, _, _, hcs⟩
        obtain ⟨E, hE⟩ := ents_open q
        exact ⟨⟨a0, a1, a2, a3, a4, l4, k4, E⟩, ⟨q0, q1, q2, q3, q4⟩, ⟨u8 b0, b8 b1, b8 b2, b8 b3⟩, hE⟩
    obtain ⟨E, hE⟩ := choose_lt each
    refine ⟨E, fun i hi => ?_, fun i hi => (hE i hi).2.1, fun i hi => (hE i hi).2.2⟩
    obtain ⟨b, off, rfl⟩ := addr_lit (by have := (hE 0 (by omega)).1.1; rwa [Nat.zero_mul] at this)
    refine ⟨b, off, rfl, World.block_lt_of_cell? w ⟨b, off + i * 5, none⟩ (by have := (hE i hi).1.1; rwa [Addr.add_lit] at this), fun j hj => ?_⟩
    have := (hE j hj).1
    rw [Addr.add_lit, Addr.add_lit, Addr.add_lit, Addr.add_lit, Addr.add_lit] at this
    exact this
end
end Go.Proofs.Ybulkbyna

/- Floats as the law meets them: what is fixed, what a NaN leaves open. -/
import Derived.WalkLawsBesides
import Derived.KernelRfl
namespace Go.Proofs.Ybulkbyna
open Go
set_option linter.unusedVariables false

/-- float64(n). -/
def fi (n : Int) : Nat := floatOfInt .f64 n
def NaN (x : Nat) : Prop := (FloatKind.f64.decode x).isNaN = true
def Num (x : Nat) : Prop := ∃ s m i, FloatKind.f64.decode x = .number s m i
def isNum (x : Nat) : Bool := match FloatKind.f64.decode x with | .number .. => true | _ => false
theorem num_of {x : Nat} (h : isNum x = true) : Num x := by
  unfold isNum at h
  unfold Num
  cases hd : FloatKind.f64.decode x with
  | number s m i => exact ⟨s, m, i, rfl⟩
  | infinity s => rw [hd] at h; cases h
  | nan s f => rw [hd] at h; cases h

/-- A number of middling size. -/
def Small (x : Nat) : Prop := ∃ s m i, FloatKind.f64.decode x = .number s m i ∧ m < 2 ^ 53 ∧ i ≤ -40 ∧ -1100 ≤ i
def isSmall (x : Nat) : Bool := match FloatKind.f64.decode x with | .number _ m i => decide (m < 2 ^ 53) && decide (i ≤ -40) && decide (-1100 ≤ i) | _ => false
theorem small_of {x : Nat} (h : isSmall x = true) : Small x := by
  unfold isSmall at h
  unfold Small
  cases hd : FloatKind.f64.decode x with
  | number s m i => rw [hd] at h; simp only [Bool.and_eq_true, decide_eq_true_eq] at h; exact ⟨s, m, i, rfl, h.1.1, h.1.2, h.2⟩
  | infinity s => rw [hd] at h; cases h
  | nan s f => rw [hd] at h; cases h
theorem Small.num {x : Nat} (h : Small x) : Num x := by obtain ⟨s, m, i, e, _⟩ := h; exact ⟨s, m, i, e⟩
theorem Num.notNaN {x : Nat} (h : Num x) : ¬ NaN x := fun hn => by obtain ⟨s, m, i, e⟩ := h; unfold NaN at hn; rw [e] at hn; cases hn

/-- 1.0 -/
def one : Nat := 4607182418800017408

set_option maxRecDepth 100000 in
theorem fi_small_all : (List.range 256).all (fun a => isSmall (fi ((a : Int) - 128))) = true := by decide +kernel
set_option maxRecDepth 100000 in
theorem sub_one_all : (List.range 256).all (fun a => match FloatKind.f64.format.sub (fi ((a : Int) - 128)) one with | some r => isNum r | none => false) = true := by decide +kernel
set_option maxRecDepth 100000 in
theorem fi_num_all : (List.range 256).all (fun a => isNum (fi ((a : Int) - 128))) = true := by decide +kernel

theorem fi_num {n : Int} (h1 : -128 ≤ n) (h2 : n ≤ 127) : Num (fi n) := by
  have := List.all_eq_true.1 fi_num_all (n + 128).toNat (List.mem_range.2 (by omega))
  have e : (((n + 128).toNat : Nat) : Int) - 128 = n := by omega
  simp only [e] at this
  exact num_of this

/-! ### What is written is no NaN; of a number of middling size it is a number. -/
theorem cut_le (neg : Bool) (n drop : Nat) : Ieee.Toward.even.cut neg n drop ≤ n / 2 ^ (min drop (n.log2 + 2)) + 1 := by
  unfold Ieee.Toward.cut
  simp only [Nat.one_shiftLeft]
  have : ∀ b : Bool, b.toNat ≤ 1 := fun b => by cases b <;> decide
  exact Nat.add_le_add_left (this _) _

theorem div_pow_le {mag e : Nat} (h0 : mag ≠ 0) (h : mag.log2 ≤ e + 52) : mag / 2 ^ e < 2 ^ 53 := by
  have h1 : mag < 2 ^ (mag.log2 + 1) := Nat.lt_log2_self
  have h2 : 2 ^ (mag.log2 + 1) ≤ 2 ^ (e + 53) := Nat.pow_le_pow_right (by omega) (by omega)
  rw [Nat.div_lt_iff_lt_mul (Nat.two_pow_pos _), ← Nat.pow_add, Nat.add_comm 53 e]
  omega

theorem kept_le (neg : Bool) {mag : Nat} (h0 : mag ≠ 0) (place last : Int) (hl : place + mag.log2 - 52 ≤ last) : Ieee.Toward.even.cut neg (mag <<< (place - last).toNat) (last - place).toNat ≤ 2 ^ 53 + 1 := by
  refine Nat.le_trans (cut_le _ _ _) (Nat.add_le_add_right ?_ 1)
  by_cases hc : last ≤ place
  · obtain ⟨s, hs⟩ : ∃ s : Nat, (place - last).toNat = s := ⟨_, rfl⟩
    have hd : (last - place).toNat = 0 := by omega
    rw [hd, hs, Nat.zero_min, Nat.pow_zero, Nat.div_one, Nat.shiftLeft_eq]
    have h1 : mag < 2 ^ (mag.log2 + 1) := Nat.lt_log2_self
    have h2 : mag * 2 ^ s ≤ 2 ^ (mag.log2 + 1) * 2 ^ s := Nat.mul_le_mul_right _ (Nat.le_of_lt h1)
    rw [← Nat.pow_add] at h2
    exact Nat.le_trans h2 (Nat.pow_le_pow_right (by omega) (by omega))
  · have hs : (place - last).toNat = 0 := by omega
    rw [hs, Nat.shiftLeft_zero]
    refine Nat.le_of_lt (div_pow_le h0 ?_)
    omega

theorem read_word (neg : Bool) (rung : Nat) (h : rung < Ieee.double.signWeight) : (Ieee.double.read (Ieee.double.word neg rung)).isNaN = decide (Ieee.double.infRung < rung) ∧ ((∃ s m i, Ieee.double.read (Ieee.double.word neg rung) = .number s m i) ↔ rung < Ieee.double.infRung) := by
  have hm : Ieee.double.word neg rung % Ieee.double.signWeight = rung := by
    unfold Ieee.Format.word
    split
    · rw [Nat.add_mod_left]; exact Nat.mod_eq_of_lt h
    · exact Nat.mod_eq_of_lt h
  unfold Ieee.Format.read
  simp only [hm]
  have hbi : Ieee.double.binade ≤ Ieee.double.infRung := by decide
  by_cases h1 : rung < Ieee.double.binade
  · rw [if_pos h1]
    exact ⟨by simp [Ieee.Datum.isNaN]; omega, fun _ => by omega, fun _ => ⟨_, _, _, rfl⟩⟩
  · rw [if_neg h1]
    by_cases h2 : rung < Ieee.double.infRung
    · rw [if_pos h2]
      exact ⟨by simp [Ieee.Datum.isNaN]; omega, fun _ => h2, fun _ => ⟨_, _, _, rfl⟩⟩
    · rw [if_neg h2]
      by_cases h3 : rung = Ieee.double.infRung
      · rw [if_pos h3]
        exact ⟨by simp [Ieee.Datum.isNaN]; omega, fun ⟨_, _, _, e⟩ => (by cases e), fun h => absurd h h2⟩
      · rw [if_neg h3]
        exact ⟨by simp [Ieee.Datum.isNaN]; omega, fun ⟨_, _, _, e⟩ => (by cases e), fun h => absurd h h2⟩

theorem fi_small {n : Int} (h1 : -128 ≤ n) (h2 : n ≤ 127) : Small (fi n) := by
  have := List.all_eq_true.1 fi_small_all (n + 128).toNat (List.mem_range.2 (by omega))
  have e : (((n + 128).toNat : Nat) : Int) - 128 = n := by omega
  simp only [e] at this
  exact small_of this

theorem nearest_rung (neg : Bool) (mag : Nat) (place : Int) : ∃ rung, Ieee.double.nearest neg mag place = Ieee.double.word neg rung ∧ rung ≤ Ieee.double.infRung ∧ (place + mag.log2 ≤ 100 → rung < Ieee.double.infRung) := by
  unfold Ieee.Format.nearest
  by_cases h0 : mag = 0
  · rw [if_pos h0]; exact ⟨0, rfl, Nat.zero_le _, fun _ => by decide⟩
  · rw [if_neg h0]
    refine ⟨_, rfl, Nat.min_le_right _ _, fun hp => ?_⟩
    have hfb : Ieee.double.fractionBits = 52 := rfl
    have hlp : Ieee.double.leastPlace = -1074 := by decide
    have hk := kept_le neg h0 place (max (place + mag.log2 - Ieee.double.fractionBits) Ieee.double.leastPlace) (by rw [hfb]; exact Int.le_max_left _ _)
    have hb : Ieee.double.binade = 2 ^ 52 := rfl
    have hi : Ieee.double.infRung = 2047 * 2 ^ 52 := by decide
    generalize hK : Ieee.Toward.even.cut neg (mag <<< (place - max (place + mag.log2 - Ieee.double.fractionBits) Ieee.double.leastPlace).toNat) (max (place + mag.log2 - Ieee.double.fractionBits) Ieee.double.leastPlace - place).toNat = K at *
    have hlast : max (place + mag.log2 - Ieee.double.fractionBits) Ieee.double.leastPlace ≤ 48 := by rw [hfb, hlp]; exact Int.max_le.2 ⟨by omega, by omega⟩
    generalize hL : max (place + mag.log2 - Ieee.double.fractionBits) Ieee.double.leastPlace = last at *
    rw [hlp, hb, hi]
    have h1 : (last - (-1074)).toNat ≤ 1122 := by omega
    have h2 : (last - (-1074)).toNat * 2 ^ 52 ≤ 1122 * 2 ^ 52 := Nat.mul_le_mul_right _ h1
    refine Nat.lt_of_le_of_lt (Nat.min_le_left _ _) ?_
    omega

theorem write_notNaN (d : Ieee.Datum) (h : d.isNaN = false) : ¬ NaN (Ieee.double.write d) := by
  have hlt : Ieee.double.infRung < Ieee.double.signWeight := by decide
  cases d with
  | number neg mag place =>
    obtain ⟨rung, e, hr, _⟩ := nearest_rung neg mag place
    show ¬ (Ieee.double.read (Ieee.double.nearest neg mag place)).isNaN = true
    rw [e, (read_word neg rung (by omega)).1]
    simp; exact hr
  | infinity neg =>
    show ¬ (Ieee.double.read (Ieee.double.word neg Ieee.double.infRung)).isNaN = true
    rw [(read_word neg _ hlt).1]
    simp
  | nan neg f => cases h

theorem write_num (neg : Bool) (mag : Nat) (place : Int) (h : place + mag.log2 ≤ 100) : Num (Ieee.double.write (.number neg mag place)) := by
  have hlt : Ieee.double.infRung < Ieee.double.signWeight := by decide
  obtain ⟨rung, e, hr, hs⟩ := nearest_rung neg mag place
  show ∃ s m i, Ieee.double.read (Ieee.double.nearest neg mag place) = .number s m i
  rw [e]
  exact (read_word neg rung (by omega)).2.2 (hs h)

theorem log2_mul_le {m n : Nat} (hm : m < 2 ^ 53) (hn : n < 2 ^ 53) : (m * n).log2 ≤ 105 := by
  by_cases h0 : m * n = 0
  · rw [h0]; decide
  · have : m * n < 2 ^ 106 := by
      have := Nat.mul_lt_mul'' hm hn
      rw [← Nat.pow_add] at this
      exact this
    have := (Nat.log2_lt h0).2 this
    omega

theorem mul_small {x y : Nat} (hx : Small x) (hy : Small y) : ∃ r, FloatKind.f64.format.mul x y = some r ∧ Num r := by
  obtain ⟨s, m, i, e, h1, h2, h3⟩ := hx
  obtain ⟨t, n, j, e', h1', h2', h3'⟩ := hy
  have ex : Ieee.double.read x = .number s m i := e
  have ey : Ieee.double.read y = .number t n j := e'
  refine ⟨Ieee.double.write (.number (s ^^ t) (m * n) (i + j)), ?_, write_num _ _ _ ?_⟩
  · show ((Ieee.double.read x).product (Ieee.double.read y)).map Ieee.double.write = _
    rw [ex, ey]; rfl
  · have := log2_mul_le h1 h1'
    omega

theorem add_ok {x y : Nat} (hx : ¬ NaN x) (hy : Num y) : ∃ r, FloatKind.f64.format.add x y = some r ∧ ¬ NaN r := by
  obtain ⟨t, n, j, e'⟩ := hy
  have ey : Ieee.double.read y = .number t n j := e'
  show ∃ r, ((Ieee.double.read x).sum (Ieee.double.read y)).map Ieee.double.write = some r ∧ _
  rw [ey]
  cases hd : Ieee.double.read x with
  | number s m i => exact ⟨_, rfl, write_notNaN _ rfl⟩
  | infinity s => exact ⟨_, rfl, write_notNaN _ rfl⟩
  | nan s f => exact absurd (show NaN x by unfold NaN; show (Ieee.double.read x).isNaN = true; rw [hd]; rfl) hx

theorem sub_ok {x y : Nat} (hx : ¬ NaN x) (hy : Num y) : ∃ r, FloatKind.f64.format.sub x y = some r ∧ ¬ NaN r := by
  obtain ⟨t, n, j, e'⟩ := hy
  have ey : Ieee.double.read y = .number t n j := e'
  show ∃ r, ((Ieee.double.read x).sum (Ieee.double.read y).opposite).map Ieee.double.write = some r ∧ _
  rw [ey]
  cases hd : Ieee.double.read x with
  | number s m i => exact ⟨_, rfl, write_notNaN _ rfl⟩
  | infinity s => exact ⟨_, rfl, write_notNaN _ rfl⟩
  | nan s f => exact absurd (show NaN x by unfold NaN; show (Ieee.double.read x).isNaN = true; rw [hd]; rfl) hx

theorem sub_one {n : Int} (h1 : -128 ≤ n) (h2 : n ≤ 127) : ∃ r, FloatKind.f64.format.sub (fi n) one = some r ∧ Num r := by
  have := List.all_eq_true.1 sub_one_all (n + 128).toNat (List.mem_range.2 (by omega))
  have e : (((n + 128).toNat : Nat) : Int) - 128 = n := by omega
  simp only [e] at this
  cases hs : FloatKind.f64.format.sub (fi n) one with
  | none => rw [hs] at this; cases this
  | some r => rw [hs] at this; exact ⟨r, rfl, num_of this⟩

/-! ### Same: equal, or both no number. -/
def Same (x y : Nat) : Prop := x = y ∨ (NaN x ∧ NaN y)
theorem Same.refl (x : Nat) : Same x x := Or.inl rfl
theorem nan_is {x : Nat} (h : NaN x) : ∃ s f, Ieee.double.read x = .nan s f := by
  have h' : (Ieee.double.read x).isNaN = true := h
  cases hd : Ieee.double.read x with
  | number s m i => rw [hd] at h'; cases h'
  | infinity s => rw [hd] at h'; cases h'
  | nan s f => exact ⟨s, f, rfl⟩

theorem bits_nan_left {op : BinOp} {x y : Nat} (h : NaN x) : floatBits op .f64 x y = none := by
  obtain ⟨s, f, e⟩ := nan_is h
  have e' : FloatKind.f64.format.read x = .nan s f := e
  unfold floatBits
  split
  · show ((FloatKind.f64.format.read x).sum _).map _ = none; rw [e']; cases (FloatKind.f64.format.read y) <;> rfl
  · show ((FloatKind.f64.format.read x).sum _).map _ = none; rw [e']; cases (FloatKind.f64.format.read y) <;> rfl
  · show ((FloatKind.f64.format.read x).product _).map _ = none; rw [e']; cases (FloatKind.f64.format.read y) <;> rfl
  · show ((FloatKind.f64.format.read x).quotient _ _).map _ = none; rw [e']; cases (FloatKind.f64.format.read y) <;> rfl
  · rfl
theorem bits_nan_right {op : BinOp} {x y : Nat} (h : NaN y) : floatBits op .f64 x y = none := by
  obtain ⟨s, f, e⟩ := nan_is h
  have e' : FloatKind.f64.format.read y = .nan s f := e
  unfold floatBits
  split
  · show ((FloatKind.f64.format.read x).sum (FloatKind.f64.format.read y)).map _ = none; rw [e']; cases (FloatKind.f64.format.read x) <;> rfl
  · show ((FloatKind.f64.format.read x).sum (FloatKind.f64.format.read y).opposite).map _ = none; rw [e']; cases (FloatKind.f64.format.read x) <;> rfl
  · show ((FloatKind.f64.format.read x).product (FloatKind.f64.format.read y)).map _ = none; rw [e']; cases (FloatKind.f64.format.read x) <;> rfl
  · show ((FloatKind.f64.format.read x).quotient _ (FloatKind.f64.format.read y)).map _ = none; rw [e']; cases (FloatKind.f64.format.read x) <;> rfl
  · rfl

/-- What an operation may give. -/
def FR (op : BinOp) (x y r : Nat) : Prop := floatBits op .f64 x y = some r ∨ (floatBits op .f64 x y = none ∧ NaN r)
theorem FR.same {op : BinOp} {x y r x' y' r' : Nat} (h : FR op x y r) (h' : FR op x' y' r') (hx : Same x x') (hy : Same y y') : Same r r' := by
  have none_of : ∀ {x y r}, FR op x y r → floatBits op .f64 x y = none → NaN r := fun h e => by
    rcases h with h | h
    · rw [e] at h; cases h
    · exact h.2
  rcases hx with rfl | ⟨h1, h2⟩
  · rcases hy with rfl | ⟨h3, h4⟩
    · rcases h with h | h
      · rcases h' with h' | h'
        · rw [h] at h'; exact Or.inl (Option.some.inj h')
        · rw [h] at h'; cases h'.1
      · exact Or.inr ⟨h.2, none_of h' h.1⟩
    · exact Or.inr ⟨none_of h (bits_nan_right h3), none_of h' (bits_nan_right h4)⟩
  · exact Or.inr ⟨none_of h (bits_nan_left h1), none_of h' (bits_nan_left h2)⟩

theorem order_nan_left {x y : Nat} (h : NaN x) : FloatKind.f64.format.order x y = none := by
  obtain ⟨s, f, e⟩ := nan_is h
  have e' : FloatKind.f64.format.read x = .nan s f := e
  show (FloatKind.f64.format.read x).order _ = none
  rw [e']; cases (FloatKind.f64.format.read y) <;> rfl
theorem order_nan_right {x y : Nat} (h : NaN y) : FloatKind.f64.format.order x y = none := by
  obtain ⟨s, f, e⟩ := nan_is h
  have e' : FloatKind.f64.format.read y = .nan s f := e
  show (FloatKind.f64.format.read x).order (FloatKind.f64.format.read y) = none
  rw [e']; cases (FloatKind.f64.format.read x) <;> rfl
theorem order_self {x : Nat} (h : ¬ NaN x) : FloatKind.f64.format.order x x = some .eq := by
  show (Ieee.double.read x).order (Ieee.double.read x) = some .eq
  cases hd : Ieee.double.read x with
  | number s m i => simp [Ieee.Datum.order]
  | infinity s => simp [Ieee.Datum.order]
  | nan s f => exact absurd (show NaN x by show (Ieee.double.read x).isNaN = true; rw [hd]; rfl) h

/-- What max may give. -/
def MR (x y r : Nat) : Prop := match FloatKind.f64.format.order x y with
  | none => NaN r
  | some .lt => r = y
  | some .gt => r = x
  | some .eq => r = if (FloatKind.f64.decode x).neg then y else x
theorem MR.same {x y r x' y' r' : Nat} (h : MR x y r) (h' : MR x' y' r') (hx : Same x x') (hy : Same y y') : Same r r' := by
  have none_of : ∀ {x y r}, MR x y r → FloatKind.f64.format.order x y = none → NaN r := fun h e => by
    unfold MR at h; rw [e] at h; exact h
  rcases hx with rfl | ⟨h1, h2⟩
  · rcases hy with rfl | ⟨h3, h4⟩
    · cases ho : FloatKind.f64.format.order x y with
      | none => exact Or.inr ⟨none_of h ho, none_of h' ho⟩
      | some c =>
        unfold MR at h h'
        rw [ho] at h h'
        cases c <;> exact Or.inl (h.trans h'.symm)
    · exact Or.inr ⟨none_of h (order_nan_right h3), none_of h' (order_nan_right h4)⟩
  · exact Or.inr ⟨none_of h (order_nan_left h1), none_of h' (order_nan_left h2)⟩

theorem nan_cut (q : Question) (t : Nat) (h : q.cut t = (t % 2) * 2 ^ 63 + 0x7ff0000000000000 + 1 + (t / 2) % (2 ^ 52 - 1)) : NaN (q.cut t) := by
  rw [h]
  obtain ⟨b, hb, e⟩ : ∃ b : Bool, ∃ rung, (t % 2) * 2 ^ 63 + 0x7ff0000000000000 + 1 + (t / 2) % (2 ^ 52 - 1) = Ieee.double.word b rung ∧ Ieee.double.infRung < rung ∧ rung < Ieee.double.signWeight := by
    have hi : Ieee.double.infRung = 0x7ff0000000000000 := by decide
    have hs : Ieee.double.signWeight = 2 ^ 63 := by decide
    have hm : (t / 2) % (2 ^ 52 - 1) < 2 ^ 52 - 1 := Nat.mod_lt _ (by decide)
    rw [hi, hs]
    rcases Nat.mod_two_eq_zero_or_one t with h0 | h0
    · refine ⟨false, 0x7ff0000000000000 + 1 + (t / 2) % (2 ^ 52 - 1), ?_, by omega, by omega⟩
      unfold Ieee.Format.word
      rw [h0]; simp
    · refine ⟨true, 0x7ff0000000000000 + 1 + (t / 2) % (2 ^ 52 - 1), ?_, by omega, by omega⟩
      unfold Ieee.Format.word
      rw [h0, hs]; simp; omega
  rw [e.1]
  show (Ieee.double.read _).isNaN = true
  rw [(read_word b hb e.2.2).1]
  simp; exact e.2.1

set_option maxRecDepth 100000 in
theorem inf_all : (List.range 256).all (fun a => FloatKind.f64.format.order (fi ((a : Int) - 128)) 9218868437227405311 == some .gt) = false ∧ (List.range 256).all (fun a => !(FloatKind.f64.format.order (fi ((a : Int) - 128)) 9218868437227405311 == some .gt)) = true := by decide +kernel
theorem fi_not_inf {n : Int} (h1 : -128 ≤ n) (h2 : n ≤ 127) : (FloatKind.f64.format.order (fi n) 9218868437227405311 == some .gt) = false := by
  have := List.all_eq_true.1 inf_all.2 (n + 128).toNat (List.mem_range.2 (by omega))
  have e : (((n + 128).toNat : Nat) : Int) - 128 = n := by omega
  simp only [e] at this
  simpa using this
theorem inf_inf : (FloatKind.f64.format.order 9218868437227405312 9218868437227405311 == some .gt) = true := by decide +kernel
end Go.Proofs.Ybulkbyna

/- A REGION THAT DRAWS ITS ORDER AND ENDS IN A STORE INTO A CELL THAT IT HAS READ. 'S' ('these cells hold these values') is asked anew behind every operation AS LONG AS NUMBER L (the store, which waits for all the loads) HAS NOT COME UP. -/
import Derived.OrdersHeld
import Derived.Deep.RegionHeld
namespace Go.Proofs.Ybulkbyna
open Go
set_option linter.unusedVariables false

section
variable {P : Program} {ops : Array Oper} {Q : Exit → Act → World → Prop} {md : Region.Mode} {S : World → Prop} {L : Nat}

/-- Whatever order is picked from here on; till L has come up the world meets S behind each operation. -/
def AnyL (P : Program) (md : Region.Mode) (ops : Array Oper) (Q : Exit → Act → World → Prop) (S : World → Prop) (L : Nat) : Nat → Array Bool → Act → World → Prop
  | 0, listed, a, w => Region.ready md ops listed = [] ∧ Q .normal a w
  | fuel + 1, listed, a, w => (Region.ready md ops listed = [] → Q .normal a w) ∧
      ∀ j ∈ Region.ready md ops listed, wpOp P ops Q j (fun a' w' => ((listed.setIfInBounds j true).getD L true = false → S w') ∧ AnyL P md ops Q S L fuel (listed.setIfInBounds j true) a' w') a w

theorem AnyL.any : ∀ (fuel : Nat) {listed : Array Bool} {a : Act} {w : World}, AnyL P md ops Q S L fuel listed a w → wpAny P md ops Q fuel listed a w
  | 0, _, _, _, h => h
  | fuel + 1, _, _, _, h => ⟨h.1, fun j hj => wpOp_mono (fun _ _ k => AnyL.any fuel k.2) (h.2 j hj)⟩

/-- L waits for number i. -/
def waits (md : Region.Mode) (ops : Array Oper) (L i : Nat) : Bool := match ops[L]? with | some o => o.after.any (fun e => Region.binds md e && e.on == i) | none => false

theorem unlisted_no {i : Nat} {listed : Array Bool} (h0 : listed.getD i true = false) (h1 : listed.getD i false = true) : False := by
  by_cases hlt : i < listed.size
  · simp [hlt] at h0 h1
    rw [h0] at h1
    cases h1
  · simp [Array.getElem?_eq_none (Nat.le_of_not_lt hlt)] at h1

theorem not_ready {i : Nat} {listed : Array Bool} (hw : waits md ops L i = true) (hi : i ∈ Region.ready md ops listed) : L ∉ Region.ready md ops listed := fun hL => by
  obtain ⟨_, o, ho, hall⟩ := mem_ready.1 hL
  simp only [waits, ho] at hw
  obtain ⟨e, he, hb⟩ := Array.any_eq_true'.1 hw
  simp only [Bool.and_eq_true, beq_iff_eq] at hb
  have h1 := hall e he hb.1
  rw [hb.2] at h1
  exact unlisted_no (mem_ready.1 hi).1 h1

theorem no_edge {i : Nat} {listed : Array Bool} {oj : Oper} (hr : i ∈ Region.ready md ops listed) (hall : ∀ e ∈ oj.after, Region.binds md e = true → listed.getD e.on false = true) : ∀ e ∈ oj.after, Region.binds md e = true → e.on ≠ i := fun e he hb heq => by
  have h1 := hall e he hb
  rw [heq] at h1
  exact unlisted_no (mem_ready.1 hr).1 h1

/-- An operation that L waits for may be taken first, if it yields its value in every world that meets S, and all that has not come up yet waits for it or is apart from it. -/
theorem AnyL.first {i : Nat} {o : Oper} {v : Value} (ho : ops[i]? = some o) (hsel : Region.noSelect ops = true) (hw : waits md ops L i = true)
    (hQ : ∀ c a w, Q (.panic c) (a.put o.dst v) w → Q (.panic c) a w) :
    ∀ (fuel : Nat) (listed : Array Bool) (a : Act) (w : World), (∀ j oj, ops[j]? = some oj → j ≠ i → listed.getD j true = false → (∀ e ∈ oj.after, Region.binds md e = true → e.on ≠ i) → o.apart ops oj = true) →
      i ∈ Region.ready md ops listed → listed.getD L true = false → YieldsIf P ops S o v a → S w → AnyL P md ops Q S L fuel (listed.setIfInBounds i true) (a.put o.dst v) w → AnyL P md ops Q S L (fuel + 1) listed a w
  | fuel, listed, a, w, hfree, hr, hLu, hy, hS, H => by
    have hsp := Region.noSelect_spec hsel
    have hiL : i ≠ L := fun e' => not_ready hw hr (e' ▸ hr)
    refine ⟨fun h => absurd (h ▸ hr) (by simp), fun j hj => ?_⟩
    by_cases e : j = i
    · subst e
      exact hy.wpOp ho hS ⟨fun _ => hS, H⟩
    have hjL : j ≠ L := fun e' => not_ready hw hr (e' ▸ hj)
    have hj' := ready_mono (i := i) hj e
    obtain ⟨hun, oj, hoj, hall⟩ := mem_ready.1 hj
    match fuel, H with
    | 0, H => rw [H.1] at hj'; cases hj'
    | fuel + 1, H =>
      have h2 := wpOp_putIf hoj (hfree j oj hoj e hun (no_edge hr hall)) (fun cs b => hsp i o cs b ho) (fun cs b => hsp j oj cs b hoj) hQ hy (H.2 j hj')
      refine wpOp_mono (fun a' w' k => ?_) h2
      have hSw : S w' := k.2.1 (by rw [getD_set_ne true hjL, getD_set_ne true hiL]; exact hLu)
      refine ⟨fun _ => hSw, AnyL.first ho hsel hw hQ fuel (listed.setIfInBounds j true) a' w' (fun q oq hq hqi hqu hqn => hfree q oq hq hqi ?_ hqn) (ready_mono hr (Ne.symm e)) (by rw [getD_set_ne true hjL]; exact hLu) k.1 hSw ?_⟩
      · by_cases ejq : j = q
        · subst ejq; exact hun
        · rwa [getD_set_ne true ejq] at hqu
      · rw [Array.setIfInBounds_comm _ _ e]
        exact k.2.2

/-- The same for an operation that yields in whatever world: nothing is asked of L's edges. -/
theorem AnyL.firstW {i : Nat} {o : Oper} {v : Value} (ho : ops[i]? = some o) (hsel : Region.noSelect ops = true) (hiL : i ≠ L)
    (hQ : ∀ c a w, Q (.panic c) (a.put o.dst v) w → Q (.panic c) a w) :
    ∀ (fuel : Nat) (listed : Array Bool) (a : Act) (w : World), (∀ j oj, ops[j]? = some oj → j ≠ i → listed.getD j true = false → (∀ e ∈ oj.after, Region.binds md e = true → e.on ≠ i) → o.apart ops oj = true) →
      i ∈ Region.ready md ops listed → YieldsIf P ops (fun _ => True) o v a → (listed.getD L true = false → S w) → AnyL P md ops Q S L fuel (listed.setIfInBounds i true) (a.put o.dst v) w → AnyL P md ops Q S L (fuel + 1) listed a w
  | fuel, listed, a, w, hfree, hr, hy, hS, H => by
    have hsp := Region.noSelect_spec hsel
    refine ⟨fun h => absurd (h ▸ hr) (by simp), fun j hj => ?_⟩
    by_cases e : j = i
    · subst e
      exact hy.wpOp ho trivial ⟨fun h => hS (by rwa [getD_set_ne true hiL] at h), H⟩
    have hj' := ready_mono (i := i) hj e
    obtain ⟨hun, oj, hoj, hall⟩ := mem_ready.1 hj
    match fuel, H with
    | 0, H => rw [H.1] at hj'; cases hj'
    | fuel + 1, H =>
      have h2 := wpOp_putIf hoj (hfree j oj hoj e hun (no_edge hr hall)) (fun cs b => hsp i o cs b ho) (fun cs b => hsp j oj cs b hoj) hQ hy (H.2 j hj')
      refine wpOp_mono (fun a' w' k => ?_) h2
      have hSw : (listed.setIfInBounds j true).getD L true = false → S w' := fun h => k.2.1 (by rw [Array.setIfInBounds_comm _ _ (Ne.symm e), getD_set_ne true hiL]; exact h)
      refine ⟨hSw, AnyL.firstW ho hsel hiL hQ fuel (listed.setIfInBounds j true) a' w' (fun q oq hq hqi hqu hqn => hfree q oq hq hqi ?_ hqn) (ready_mono hr (Ne.symm e)) k.1 hSw ?_⟩
      · by_cases ejq : j = q
        · subst ejq; exact hun
        · rwa [getD_set_ne true ejq] at hqu
      · rw [Array.setIfInBounds_comm _ _ e]
        exact k.2.2

theorem AnyL.take {i : Nat} {o : Oper} {v : Value} {fuel : Nat} {listed : Array Bool} {a : Act} {w : World} (ho : ops[i]? = some o) (hsel : Region.noSelect ops = true) (hw : waits md ops L i = true)
    (hf : Region.free md ops listed i = true) (hr : (Region.ready md ops listed).contains i = true) (hLu : listed.getD L true = false) (hQ : ∀ c a w, Q (.panic c) (a.put o.dst v) w → Q (.panic c) a w)
    (hwant : Region.wanted o (yielded ops a.tmps) = true) (hy : ∀ w, S w → (execOp a.eval o).run P w = .ok (.value v) w) (hS : S w)
    (h : AnyL P md ops Q S L fuel (listed.setIfInBounds i true) (a.put o.dst v) w) : AnyL P md ops Q S L (fuel + 1) listed a w :=
  AnyL.first ho hsel hw hQ fuel listed a w (Region.free_spec ho hf) (by simpa using hr) hLu (.inl ⟨hwant, hy⟩) hS h

theorem AnyL.takeW {i : Nat} {o : Oper} {v : Value} {fuel : Nat} {listed : Array Bool} {a : Act} {w : World} (ho : ops[i]? = some o) (hsel : Region.noSelect ops = true) (hiL : i ≠ L)
    (hf : Region.free md ops listed i = true) (hr : (Region.ready md ops listed).contains i = true) (hQ : ∀ c a w, Q (.panic c) (a.put o.dst v) w → Q (.panic c) a w)
    (hwant : Region.wanted o (yielded ops a.tmps) = true) (hy : ∀ w, (execOp a.eval o).run P w = .ok (.value v) w) (hS : S w)
    (h : AnyL P md ops Q S L fuel (listed.setIfInBounds i true) (a.put o.dst v) w) : AnyL P md ops Q S L (fuel + 1) listed a w :=
  AnyL.firstW ho hsel hiL hQ fuel listed a w (Region.free_spec ho hf) (by simpa using hr) (.inl ⟨hwant, fun w _ => hy w⟩) (fun _ => hS) h

/-- The same two, the slot spelt out. -/
theorem AnyL.take' {i d : Nat} {o : Oper} {v : Value} {fuel : Nat} {listed : Array Bool} {a : Act} {w : World} (ho : ops[i]? = some o) (hd : o.dst = some d) (hsel : Region.noSelect ops = true) (hw : waits md ops L i = true)
    (hf : Region.free md ops listed i = true) (hr : (Region.ready md ops listed).contains i = true) (hLu : listed.getD L true = false) (hQ : ∀ c a w, Q (.panic c) (a.put o.dst v) w → Q (.panic c) a w)
    (hwant : Region.wanted o (yielded ops a.tmps) = true) (hy : ∀ w, S w → (execOp a.eval o).run P w = .ok (.value v) w) (hS : S w)
    (h : AnyL P md ops Q S L fuel (listed.setIfInBounds i true) (a.put (some d) v) w) : AnyL P md ops Q S L (fuel + 1) listed a w :=
  AnyL.take ho hsel hw hf hr hLu hQ hwant hy hS (by rw [hd]; exact h)
theorem AnyL.takeW' {i d : Nat} {o : Oper} {v : Value} {fuel : Nat} {listed : Array Bool} {a : Act} {w : World} (ho : ops[i]? = some o) (hd : o.dst = some d) (hsel : Region.noSelect ops = true) (hiL : i ≠ L)
    (hf : Region.free md ops listed i = true) (hr : (Region.ready md ops listed).contains i = true) (hQ : ∀ c a w, Q (.panic c) (a.put o.dst v) w → Q (.panic c) a w)
    (hwant : Region.wanted o (yielded ops a.tmps) = true) (hy : ∀ w, (execOp a.eval o).run P w = .ok (.value v) w) (hS : S w)
    (h : AnyL P md ops Q S L fuel (listed.setIfInBounds i true) (a.put (some d) v) w) : AnyL P md ops Q S L (fuel + 1) listed a w :=
  AnyL.takeW ho hsel hiL hf hr hQ hwant hy hS (by rw [hd]; exact h)

/-- One operation alone may come up: it is carried out. -/
theorem AnyL.one {i : Nat} {o : Oper} {fuel : Nat} {listed : Array Bool} {a : Act} {w : World} (hr : Region.ready md ops listed = [i]) (ho : ops[i]? = some o) (hwant : Region.wanted o (yielded ops a.tmps) = true)
    (h : ∀ K : Act → World → Prop, Shut (∀ a' w', ((listed.setIfInBounds i true).getD L true = false → S w') → AnyL P md ops Q S L fuel (listed.setIfInBounds i true) a' w' → K a' w') → Oper.wp P o a w K Q) : AnyL P md ops Q S L (fuel + 1) listed a w := by
  refine ⟨fun h0 => (by rw [hr] at h0; cases h0), fun j hj => ?_⟩
  rw [hr] at hj
  obtain rfl : j = i := by simpa using hj
  unfold wpOp
  simp only [ho, hwant, if_true]
  exact .inl (h _ (fun a' w' hS hk => ⟨hS, hk⟩))

theorem AnyL.done {fuel : Nat} {listed : Array Bool} {a : Act} {w : World} (hr : Region.ready md ops listed = []) (h : Q .normal a w) : AnyL P md ops Q S L fuel listed a w := by
  cases fuel with
  | zero => exact ⟨hr, h⟩
  | succ _ => exact ⟨fun _ => h, by rw [hr]; simp⟩

theorem AnyL.region {id : Nat} {a : Act} {w : World} (hm : P.follows .mixedOrders = true) (h : AnyL P .any ops Q S L ops.size (Array.replicate ops.size false) a w.drew) : (Code.region id ops true).wp P Q a w :=
  wp_region_any hm (AnyL.any _ h)

/-- What stands when the operations of R that are not in 'rem' have come up, in whatever order: slots and marks. -/
structure St (R : List Nat) (dst : Nat → Nat) (a0 : Act) (l0 : Array Bool) (rem : List Nat) (vals : Nat → Value) (a : Act) (l : Array Bool) : Prop where
  defers : a.defers = a0.defers
  size : a.tmps.size = a0.tmps.size
  old : ∀ s, (∀ j ∈ R, j ∉ rem → dst j ≠ s) → a.tmps[s]? = a0.tmps[s]?
  new : ∀ j ∈ R, j ∉ rem → a.tmps[dst j]? = some (vals j)
  lsize : l.size = l0.size
  lold : ∀ i, (i ∈ R → i ∈ rem) → l[i]? = l0[i]?
  lnew : ∀ j ∈ R, j ∉ rem → l[j]? = some true

/-- All that is not in R and has not come up waits: for all of R, or for another such. -/
def blocks (md : Region.Mode) (ops : Array Oper) (l0 : Array Bool) (R : List Nat) : Bool :=
  (List.range ops.size).all fun i => R.contains i || l0.getD i true || match ops[i]? with
    | none => true
    | some o => o.after.any (fun e => Region.binds md e && !R.contains e.on && !l0.getD e.on false) || R.all (fun j => o.after.any (fun e => Region.binds md e && e.on == j))

theorem St.ready {R : List Nat} {dst : Nat → Nat} {a0 a : Act} {l0 l : Array Bool} {rem : List Nat} {vals : Nat → Value} (h : St R dst a0 l0 rem vals a l) (hne : rem ≠ []) (hsub : ∀ j ∈ rem, j ∈ R) (hb : blocks md ops l0 R = true) (hr0 : ∀ j ∈ R, l0.getD j true = false) {i : Nat} (hi : i ∈ Region.ready md ops l) : i ∈ rem := by
  obtain ⟨hun, o, ho, hall⟩ := mem_ready.1 hi
  have hlt : i < ops.size := (Array.getElem?_eq_some_iff.1 ho).1
  by_cases hR : i ∈ R
  · by_cases hm : i ∈ rem
    · exact hm
    · have := h.lnew i hR hm
      rw [Array.getD_eq_getD_getElem?, this] at hun
      cases hun
  · exfalso
    have hl := h.lold i (fun h' => absurd h' hR)
    have hb' := List.all_eq_true.1 hb i (List.mem_range.2 hlt)
    simp only [ho, Bool.or_eq_true] at hb'
    rcases hb' with (hc | hc) | hc
    · exact hR (by simpa using hc)
    · rw [Array.getD_eq_getD_getElem?, ← hl, ← Array.getD_eq_getD_getElem?, hun] at hc
      cases hc
    · rcases hc with hc | hc
      · obtain ⟨e, he, hbe⟩ := Array.any_eq_true'.1 hc
        simp only [Bool.and_eq_true, Bool.not_eq_true'] at hbe
        obtain ⟨⟨h1, h2⟩, h3⟩ := hbe
        have h4 := hall e he h1
        have hnR : e.on ∉ R := by simpa using h2
        rw [Array.getD_eq_getD_getElem?, h.lold e.on (fun h' => absurd h' hnR), ← Array.getD_eq_getD_getElem?, h3] at h4
        cases h4
      · obtain ⟨j, hj⟩ := List.exists_mem_of_ne_nil rem hne
        have hjR := hsub j hj
        have h5 := List.all_eq_true.1 hc j hjR
        obtain ⟨e, he, hbe⟩ := Array.any_eq_true'.1 h5
        simp only [Bool.and_eq_true, beq_iff_eq] at hbe
        have h4 := hall e he hbe.1
        rw [hbe.2] at h4
        have hlj := h.lold j (fun _ => hj)
        have h0 := hr0 j hjR
        rw [Array.getD_eq_getD_getElem?, hlj] at h4
        rw [Array.getD_eq_getD_getElem?] at h0
        cases hq : l0[j]? with
        | none => rw [hq] at h4; cases h4
        | some b => rw [hq] at h4 h0; simp at h4 h0; rw [h4] at h0; cases h0

/-- Each of R waits but for what has come up, and for earlier ones of R. -/
def lives (md : Region.Mode) (ops : Array Oper) (l0 : Array Bool) (R : List Nat) : Bool :=
  R.all fun j => !l0.getD j true && match ops[j]? with
    | some o => o.after.all (fun e => !Region.binds md e || l0.getD e.on false || (R.contains e.on && decide (e.on < j)))
    | none => false

theorem exists_least : ∀ (rem : List Nat), rem ≠ [] → ∃ j ∈ rem, ∀ i ∈ rem, j ≤ i
  | [], h => absurd rfl h
  | [a], _ => ⟨a, by simp, by simp⟩
  | a :: b :: r, _ => by
    obtain ⟨j, hj, h⟩ := exists_least (b :: r) (by simp)
    by_cases hc : a ≤ j
    · refine ⟨a, by simp, fun i hi => ?_⟩
      rcases List.mem_cons.1 hi with rfl | hi
      · exact Nat.le_refl _
      · exact Nat.le_trans hc (h i hi)
    · refine ⟨j, List.mem_cons_of_mem _ hj, fun i hi => ?_⟩
      rcases List.mem_cons.1 hi with rfl | hi
      · omega
      · exact h i hi

theorem St.keep {R : List Nat} {dst : Nat → Nat} {a0 a : Act} {l0 l : Array Bool} {rem : List Nat} {vals : Nat → Value} (h : St R dst a0 l0 rem vals a l) (hv : lives md ops l0 R = true) (hne : rem ≠ []) (hsub : ∀ j ∈ rem, j ∈ R) : ∃ j, j ∈ Region.ready md ops l := by
  obtain ⟨j, hj, hmin⟩ := exists_least rem hne
  have hjR := hsub j hj
  have h1 := List.all_eq_true.1 hv j hjR
  cases ho : ops[j]? with
  | none => simp [ho] at h1
  | some o =>
    simp only [ho, Bool.and_eq_true, Bool.not_eq_true'] at h1
    refine ⟨j, mem_ready.2 ⟨?_, o, ho, fun e he hb => ?_⟩⟩
    · rw [Array.getD_eq_getD_getElem?, h.lold j (fun _ => hj), ← Array.getD_eq_getD_getElem?]; exact h1.1
    · have h2 := Array.all_eq_true'.1 h1.2 e he
      simp only [Bool.or_eq_true, Bool.not_eq_true', hb, Bool.true_eq_false, false_or, Bool.and_eq_true, decide_eq_true_eq] at h2
      rcases h2 with h2 | ⟨h2, h3⟩
      · by_cases hc : e.on ∈ R ∧ e.on ∉ rem
        · rw [Array.getD_eq_getD_getElem?, h.lnew _ hc.1 hc.2]; rfl
        · rw [Array.getD_eq_getD_getElem?, h.lold e.on (fun h' => Classical.byContradiction fun h'' => hc ⟨h', h''⟩), ← Array.getD_eq_getD_getElem?]; exact h2
      · have hR : e.on ∈ R := by simpa using h2
        have hnr : e.on ∉ rem := fun h' => by have := hmin _ h'; omega
        rw [Array.getD_eq_getD_getElem?, h.lnew _ hR hnr]; rfl

/-- What a ready operation waits for has come up. -/
theorem St.done {R : List Nat} {dst : Nat → Nat} {a0 a : Act} {l0 l : Array Bool} {rem : List Nat} {vals : Nat → Value} (h : St R dst a0 l0 rem vals a l) (hr0 : ∀ j ∈ R, l0.getD j true = false) {j i : Nat} (hj : j ∈ Region.ready md ops l) (hw : waits md ops j i = true) (hi : i ∈ R) : i ∉ rem := fun hc => by
  obtain ⟨_, o, ho, hall⟩ := mem_ready.1 hj
  simp only [waits, ho] at hw
  obtain ⟨e, he, hbe⟩ := Array.any_eq_true'.1 hw
  simp only [Bool.and_eq_true, beq_iff_eq] at hbe
  have h4 := hall e he hbe.1
  rw [hbe.2] at h4
  have h0 := hr0 i hi
  rw [Array.getD_eq_getD_getElem?, h.lold i (fun _ => hc)] at h4
  rw [Array.getD_eq_getD_getElem?] at h0
  cases hq : l0[i]? with
  | none => rw [hq] at h4; cases h4
  | some b => rw [hq] at h4 h0; simp at h4 h0; rw [h4] at h0; cases h0

def updV (f : Nat → Value) (j : Nat) (v : Value) : Nat → Value := fun k => if k = j then v else f k

theorem St.step {R : List Nat} {dst : Nat → Nat} {a0 a : Act} {l0 l : Array Bool} {rem : List Nat} {vals : Nat → Value} (h : St R dst a0 l0 rem vals a l) (hinj : ∀ i ∈ R, ∀ j ∈ R, dst i = dst j → i = j) (hsz : ∀ j ∈ R, dst j < a0.tmps.size) (hlz : ∀ j ∈ R, j < l0.size) {j : Nat} (hj : j ∈ rem) (hjR : j ∈ R) (hnd : rem.Nodup) (v : Value) :
    St R dst a0 l0 (rem.erase j) (updV vals j v) (a.put (some (dst j)) v) (l.setIfInBounds j true) := by
  have hmem : ∀ i, i ∉ rem.erase j → i ≠ j → i ∉ rem := fun i h1 h2 h3 => h1 ((List.mem_erase_of_ne h2).2 h3)
  have hnj : j ∉ rem.erase j := fun h' => (List.Nodup.mem_erase_iff hnd).1 h' |>.1 rfl
  refine ⟨h.defers, by simp [Act.put, h.size], fun s hs => ?_, fun i hi hin => ?_, by simp [h.lsize], fun i hi => ?_, fun i hi hin => ?_⟩
  · have h1 : dst j ≠ s := hs j hjR hnj
    simp only [Act.put]
    rw [Array.getElem?_setIfInBounds_ne h1]
    exact h.old s (fun i hiR hin => hs i hiR (fun h' => hin (List.mem_of_mem_erase h')))
  · simp only [Act.put, updV]
    by_cases e : i = j
    · subst e
      rw [if_pos rfl, Array.getElem?_setIfInBounds_self]
      rw [if_pos (by rw [h.size]; exact hsz i hi)]
    · rw [if_neg e, Array.getElem?_setIfInBounds_ne (fun h' => e (hinj i hi j hjR h'.symm))]
      exact h.new i hi (hmem i hin e)
  · have e : j ≠ i := fun e => by subst e; exact hnj (hi hjR)
    rw [Array.getElem?_setIfInBounds_ne e]
    exact h.lold i (fun h' => List.mem_of_mem_erase (hi h'))
  · by_cases e : i = j
    · subst e
      rw [Array.getElem?_setIfInBounds_self, if_pos (by rw [h.lsize]; exact hlz i hi)]
    · rw [Array.getElem?_setIfInBounds_ne (Ne.symm e)]
      exact h.lnew i hi (hmem i hin e)

/-- THE EFFECTS OF A REGION (makes, calls), IN WHATEVER ORDER. 'I rem vals w': what holds when those of R that are not in 'rem' have yielded 'vals'. -/
theorem AnyL.effects {R : List Nat} {dst : Nat → Nat} {a0 : Act} {l0 : Array Bool} (I : List Nat → (Nat → Value) → World → Prop) (hv : lives md ops l0 R = true) (hb : blocks md ops l0 R = true)
    (hinj : ∀ i ∈ R, ∀ j ∈ R, dst i = dst j → i = j) (hsz : ∀ j ∈ R, dst j < a0.tmps.size) (hlz : ∀ j ∈ R, j < l0.size) (hS : ∀ rem vals w, I rem vals w → S w)
    (hstep : ∀ rem j vals a l w, j ∈ rem → (∀ i ∈ rem, i ∈ R) → St R dst a0 l0 rem vals a l → j ∈ Region.ready md ops l → I rem vals w → ∀ K : Act → World → Prop, (∀ v w', I (rem.erase j) (updV vals j v) w' → K (a.put (some (dst j)) v) w') → wpOp P ops Q j K a w)
    (fuel : Nat) (hend : ∀ vals a l w, St R dst a0 l0 [] vals a l → I [] vals w → AnyL P md ops Q S L fuel l a w) :
    ∀ (rem : List Nat), rem.Nodup → (∀ i ∈ rem, i ∈ R) → ∀ (n : Nat), rem.length = n → ∀ vals a l w, St R dst a0 l0 rem vals a l → I rem vals w → AnyL P md ops Q S L (fuel + n) l a w := by
  have hr0 : ∀ j ∈ R, l0.getD j true = false := fun j hj => by
    have h1 := List.all_eq_true.1 hv j hj
    simp only [Bool.and_eq_true, Bool.not_eq_true'] at h1
    exact h1.1
  intro rem hnd hsub n
  induction n generalizing rem with
  | zero =>
    intro hn vals a l w hst hI
    obtain rfl := List.eq_nil_of_length_eq_zero hn
    exact hend vals a l w hst hI
  | succ n ih =>
    intro hn vals a l w hst hI
    have hne : rem ≠ [] := fun e => by rw [e] at hn; cases hn
    refine ⟨fun h0 => ?_, fun j hj => ?_⟩
    · obtain ⟨j, hj⟩ := hst.keep (md := md) (ops := ops) hv hne hsub
      rw [h0] at hj
      cases hj
    · have hjr := hst.ready hne hsub hb hr0 hj
      refine hstep rem j vals a l w hjr hsub hst hj hI _ (fun v w' hI' => ⟨fun _ => hS _ _ _ hI', ?_⟩)
      exact ih (rem.erase j) (hnd.erase j) (fun i hi => hsub i (List.mem_of_mem_erase hi)) (by rw [List.length_erase_of_mem hjr, hn]; rfl) _ _ _ _ (hst.step hinj hsz hlz hjr (hsub j hjr) hnd v) hI'

theorem St.start (R : List Nat) (dst : Nat → Nat) (a0 : Act) (l0 : Array Bool) (vals : Nat → Value) : St R dst a0 l0 R vals a0 l0 :=
  ⟨rfl, rfl, fun _ _ => rfl, fun j hj hn => absurd hj hn, rfl, fun _ _ => rfl, fun j hj hn => absurd hj hn⟩
end
end Go.Proofs.Ybulkbyna

/- A REGION THAT DRAWS ITS ORDER AND ENDS IN A STORE INTO A CELL THAT IT HAS READ. 'S' ('these cells hold these values') is asked anew behind every operation AS LONG AS NUMBER L (the store, which waits for all the loads) HAS NOT COME UP. -/
import Derived.OrdersHeld
import Derived.Deep.RegionHeld
namespace Go.Proofs.Ybulkbykw
open Go

section
variable {P : Program} {ops : Array Oper} {Q : Exit → Act → World → Prop} {md : Region.Mode} {S : World → Prop} {L : Nat}

/-- Whatever order is picked from here on; till L has come up the world meets S behind each operation. -/
def AnyL (P : Program) (md : Region.Mode) (ops : Array Oper) (Q : Exit → Act → World → Prop) (S : World → Prop) (L : Nat) : Nat → Array Bool → Act → World → Prop
  | 0, listed, a, w => Region.ready md ops listed = [] ∧ Q .normal a w
  | fuel + 1, listed, a, w => (Region.ready md ops listed = [] → Q .normal a w) ∧
      ∀ j ∈ Region.ready md ops listed, wpOp P ops Q j (fun a' w' => ((listed.setIfInBounds j true).getD L true = false → S w') ∧ AnyL P md ops Q S L fuel (listed.setIfInBounds j true) a' w') a w

theorem AnyL.any : ∀ (fuel : Nat) {listed : Array Bool} {a : Act} {w : World}, AnyL P md ops Q S L fuel listed a w → wpAny P md ops Q fuel listed a w
  | 0, _, _, _, h => h
  | fuel + 1, _, _, _, h => ⟨h.1, fun j hj => wpOp_mono (fun _ _ k => AnyL.any fuel k.2) (h.2 j hj)⟩

/-- L waits for number i. -/
def waits (md : Region.Mode) (ops : Array Oper) (L i : Nat) : Bool := match ops[L]? with | some o => o.after.any (fun e => Region.binds md e && e.on == i) | none => false

theorem unlisted_no {i : Nat} {listed : Array Bool} (h0 : listed.getD i true = false) (h1 : listed.getD i false = true) : False := by
  by_cases hlt : i < listed.size
  · simp [hlt] at h0 h1
    rw [h0] at h1
    cases h1
  · simp [Array.getElem?_eq_none (Nat.le_of_not_lt hlt)] at h1

theorem not_ready {i : Nat} {listed : Array Bool} (hw : waits md ops L i = true) (hi : i ∈ Region.ready md ops listed) : L ∉ Region.ready md ops listed := fun hL => by
  obtain ⟨_, o, ho, hall⟩ := mem_ready.1 hL
  simp only [waits, ho] at hw
  obtain ⟨e, he, hb⟩ := Array.any_eq_true'.1 hw
  simp only [Bool.and_eq_true, beq_iff_eq] at hb
  have h1 := hall e he hb.1
  rw [hb.2] at h1
  exact unlisted_no (mem_ready.1 hi).1 h1

theorem no_edge {i : Nat} {listed : Array Bool} {oj : Oper} (hr : i ∈ Region.ready md ops listed) (hall : ∀ e ∈ oj.after, Region.binds md e = true → listed.getD e.on false = true) : ∀ e ∈ oj.after, Region.binds md e = true → e.on ≠ i := fun e he hb heq => by
  have h1 := hall e he hb
  rw [heq] at h1
  exact unlisted_no (mem_ready.1 hr).1 h1

/-- An operation that L waits for may be taken first, if it yields its value in every world that meets S, and all that has not come up yet waits for it or is apart from it. -/
theorem AnyL.first {i : Nat} {o : Oper} {v : Value} (ho : ops[i]? = some o) (hsel : Region.noSelect ops = true) (hw : waits md ops L i = true)
    (hQ : ∀ c a w, Q (.panic c) (a.put o.dst v) w → Q (.panic c) a w) :
    ∀ (fuel : Nat) (listed : Array Bool) (a : Act) (w : World), (∀ j oj, ops[j]? = some oj → j ≠ i → listed.getD j true = false → (∀ e ∈ oj.after, Region.binds md e = true → e.on ≠ i) → o.apart ops oj = true) →
      i ∈ Region.ready md ops listed → listed.getD L true = false → YieldsIf P ops S o v a → S w → AnyL P md ops Q S L fuel (listed.setIfInBounds i true) (a.put o.dst v) w → AnyL P md ops Q S L (fuel + 1) listed a w
  | fuel, listed, a, w, hfree, hr, hLu, hy, hS, H => by
    have hsp := Region.noSelect_spec hsel
    have hiL : i ≠ L := fun e' => not_ready hw hr (e' ▸ hr)
    refine ⟨fun h => absurd (h ▸ hr) (by simp), fun j hj => ?_⟩
    by_cases e : j = i
    · subst e
      exact hy.wpOp ho hS ⟨fun _ => hS, H⟩
    have hjL : j ≠ L := fun e' => not_ready hw hr (e' ▸ hj)
    have hj' := ready_mono (i := i) hj e
    obtain ⟨hun, oj, hoj, hall⟩ := mem_ready.1 hj
    match fuel, H with
    | 0, H => rw [H.1] at hj'; cases hj'
    | fuel + 1, H =>
      have h2 := wpOp_putIf hoj (hfree j oj hoj e hun (no_edge hr hall)) (fun cs b => hsp i o cs b ho) (fun cs b => hsp j oj cs b hoj) hQ hy (H.2 j hj')
      refine wpOp_mono (fun a' w' k => ?_) h2
      have hSw : S w' := k.2.1 (by rw [getD_set_ne true hjL, getD_set_ne true hiL]; exact hLu)
      refine ⟨fun _ => hSw, AnyL.first ho hsel hw hQ fuel (listed.setIfInBounds j true) a' w' (fun q oq hq hqi hqu hqn => hfree q oq hq hqi ?_ hqn) (ready_mono hr (Ne.symm e)) (by rw [getD_set_ne true hjL]; exact hLu) k.1 hSw ?_⟩
      · by_cases ejq : j = q
        · subst ejq; exact hun
        · rwa [getD_set_ne true ejq] at hqu
      · rw [Array.setIfInBounds_comm _ _ e]
        exact k.2.2

/-- The same for an operation that yields in whatever world: nothing is asked of L's edges. -/
theorem AnyL.firstW {i : Nat} {o : Oper} {v : Value} (ho : ops[i]? = some o) (hsel : Region.noSelect ops = true) (hiL : i ≠ L)
    (hQ : ∀ c a w, Q (.panic c) (a.put o.dst v) w → Q (.panic c) a w) :
    ∀ (fuel : Nat) (listed : Array Bool) (a : Act) (w : World), (∀ j oj, ops[j]? = some oj → j ≠ i → listed.getD j true = false → (∀ e ∈ oj.after, Region.binds md e = true → e.on ≠ i) → o.apart ops oj = true) →
      i ∈ Region.ready md ops listed → YieldsIf P ops (fun _ => True) o v a → (listed.getD L true = false → S w) → AnyL P md ops Q S L fuel (listed.setIfInBounds i true) (a.put o.dst v) w → AnyL P md ops Q S L (fuel + 1) listed a w
  | fuel, listed, a, w, hfree, hr, hy, hS, H => by
    have hsp := Region.noSelect_spec hsel
    refine ⟨fun h => absurd (h ▸ hr) (by simp), fun j hj => ?_⟩
    by_cases e : j = i
    · subst e
      exact hy.wpOp ho trivial ⟨fun h => hS (by rwa [getD_set_ne true hiL] at h), H⟩
    have hj' := ready_mono (i := i) hj e
    obtain ⟨hun, oj, hoj, hall⟩ := mem_ready.1 hj
    match fuel, H with
    | 0, H => rw [H.1] at hj'; cases hj'
    | fuel + 1, H =>
      have h2 := wpOp_putIf hoj (hfree j oj hoj e hun (no_edge hr hall)) (fun cs b => hsp i o cs b ho) (fun cs b => hsp j oj cs b hoj) hQ hy (H.2 j hj')
      refine wpOp_mono (fun a' w' k => ?_) h2
      have hSw : (listed.setIfInBounds j true).getD L true = false → S w' := fun h => k.2.1 (by rw [Array.setIfInBounds_comm _ _ (Ne.symm e), getD_set_ne true hiL]; exact h)
      refine ⟨hSw, AnyL.firstW ho hsel hiL hQ fuel (listed.setIfInBounds j true) a' w' (fun q oq hq hqi hqu hqn => hfree q oq hq hqi ?_ hqn) (ready_mono hr (Ne.symm e)) k.1 hSw ?_⟩
      · by_cases ejq : j = q
        · subst ejq; exact hun
        · rwa [getD_set_ne true ejq] at hqu
      · rw [Array.setIfInBounds_comm _ _ e]
        exact k.2.2

theorem AnyL.take {i : Nat} {o : Oper} {v : Value} {fuel : Nat} {listed : Array Bool} {a : Act} {w : World} (ho : ops[i]? = some o) (hsel : Region.noSelect ops = true) (hw : waits md ops L i = true)
    (hf : Region.free md ops listed i = true) (hr : (Region.ready md ops listed).contains i = true) (hLu : listed.getD L true = false) (hQ : ∀ c a w, Q (.panic c) (a.put o.dst v) w → Q (.panic c) a w)
    (hwant : Region.wanted o (yielded ops a.tmps) = true) (hy : ∀ w, S w → (execOp a.eval o).run P w = .ok (.value v) w) (hS : S w)
    (h : AnyL P md ops Q S L fuel (listed.setIfInBounds i true) (a.put o.dst v) w) : AnyL P md ops Q S L (fuel + 1) listed a w :=
  AnyL.first ho hsel hw hQ fuel listed a w (Region.free_spec ho hf) (by simpa using hr) hLu (.inl ⟨hwant, hy⟩) hS h

theorem AnyL.takeW {i : Nat} {o : Oper} {v : Value} {fuel : Nat} {listed : Array Bool} {a : Act} {w : World} (ho : ops[i]? = some o) (hsel : Region.noSelect ops = true) (hiL : i ≠ L)
    (hf : Region.free md ops listed i = true) (hr : (Region.ready md ops listed).contains i = true) (hQ : ∀ c a w, Q (.panic c) (a.put o.dst v) w → Q (.panic c) a w)
    (hwant : Region.wanted o (yielded ops a.tmps) = true) (hy : ∀ w, (execOp a.eval o).run P w = .ok (.value v) w) (hS : S w)
    (h : AnyL P md ops Q S L fuel (listed.setIfInBounds i true) (a.put o.dst v) w) : AnyL P md ops Q S L (fuel + 1) listed a w :=
  AnyL.firstW ho hsel hiL hQ fuel listed a w (Region.free_spec ho hf) (by simpa using hr) (.inl ⟨hwant, fun w _ => hy w⟩) (fun _ => hS) h

/-- One operation alone may come up: it is carried out. -/
theorem AnyL.one {i : Nat} {o : Oper} {fuel : Nat} {listed : Array Bool} {a : Act} {w : World} (hr : Region.ready md ops listed = [i]) (ho : ops[i]? = some o) (hwant : Region.wanted o (yielded ops a.tmps) = true)
    (h : ∀ K : Act → World → Prop, Shut (∀ a' w', ((listed.setIfInBounds i true).getD L true = false → S w') → AnyL P md ops Q S L fuel (listed.setIfInBounds i true) a' w' → K a' w') → Oper.wp P o a w K Q) : AnyL P md ops Q S L (fuel + 1) listed a w := by
  refine ⟨fun h0 => (by rw [hr] at h0; cases h0), fun j hj => ?_⟩
  rw [hr] at hj
  obtain rfl : j = i := by simpa using hj
  unfold wpOp
  simp only [ho, hwant, if_true]
  exact .inl (h _ (fun a' w' hS hk => ⟨hS, hk⟩))

theorem AnyL.done {fuel : Nat} {listed : Array Bool} {a : Act} {w : World} (hr : Region.ready md ops listed = []) (h : Q .normal a w) : AnyL P md ops Q S L fuel listed a w := by
  cases fuel with
  | zero => exact ⟨hr, h⟩
  | succ _ => exact ⟨fun _ => h, by rw [hr]; simp⟩

theorem AnyL.region {id : Nat} {a : Act} {w : World} (hm : P.follows .mixedOrders = true) (h : AnyL P .any ops Q S L ops.size (Array.replicate ops.size false) a w.drew) : (Code.region id ops true).wp P Q a w :=
  wp_region_any hm (AnyL.any _ h)
end
end Go.Proofs.Ybulkbykw

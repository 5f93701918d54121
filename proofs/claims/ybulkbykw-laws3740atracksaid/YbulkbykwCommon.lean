/- WHAT THE FOUR LAWS OF THIS SEAT SHARE: rows of integers that came in; 'copy' at whatever element size; small facts on own rows. -/
import Derived.Test.YbulkbykwRows
import Derived.WalkKit
import Derived.WalkSpells
import Derived.ProofKit
import Derived.OpenShut
import Derived.Below
import Derived.Laws.CopyOwn
import Derived.Handy
namespace Go.Proofs.Ybulkbykw
open Go.ChangeShapes Go.WideShapes Go.ChangeAt Go.RowKit
set_option linter.unusedVariables false

theorem info3 : (Yba.prog.info? 3).map (fun i => (i.zero, i.size, i.bytes)) = some (some (.int .i64 0), 1, 8) := by kernel_rfl

/-- A slice of integers that came in: nil; or it leads to a row of 'cap' cells. -/
def IsRow (k : IntKind) (w : World) (a : Option Addr) (len cap : Nat) (zs : List Int) : Prop :=
  (a = none ∧ len = 0 ∧ cap = 0 ∧ zs = []) ∨
  ∃ x, a = some x ∧ len ≤ cap ∧ cap ≤ maxLen ∧ zs.length = cap ∧ (∀ i, i < zs.length → w.cell? (x.add i) = some (.int k (zs.getD i 0))) ∧ ∀ n ∈ zs, (Lit.int k n).wf = true

theorem row_none {k : IntKind} {w : World} {a : Option Addr} {len cap : Nat} {zs : List Int} (h : IsRow k w a len cap zs) : a = none → len = 0 ∧ cap = 0 := by
  intro e; rcases h with ⟨_, h1, h2, _⟩ | ⟨x, h1, _⟩
  · exact ⟨h1, h2⟩
  · rw [e] at h1; cases h1

theorem row_len {k : IntKind} {w : World} {a : Option Addr} {len cap : Nat} {zs : List Int} (h : IsRow k w a len cap zs) : (zs.take len).length = len := by
  rcases h with ⟨_, h1, h2, rfl⟩ | ⟨x, h1, h2, h3, h4, _⟩
  · simp [h1]
  · simp; omega

theorem row_cells {k : IntKind} {w w' : World} {a : Option Addr} {len cap : Nat} {zs : List Int} (h : IsRow k w a len cap zs) (hb : Below w.heap.size w w') :
    ∀ ad, a = some ad → ∀ j u, ((zs.take len).map (Value.int k))[j]? = some u → w'.cell? (ad.add j) = some u := by
  intro ad e j u hu
  rcases h with ⟨h0, _⟩ | ⟨x, h1, h2, h3, h4, h5, _⟩
  · rw [h0] at e; cases e
  · rw [h1] at e; obtain rfl := Option.some.inj e
    have hj : j < zs.length ∧ j < len := by
      have := (List.getElem?_eq_some_iff.1 hu).1
      simp at this; omega
    have hc := h5 j hj.1
    have hlt : (x.add j).block < w.heap.size := World.block_lt_of_cell? w _ hc
    rw [hb.cell hlt, hc]
    rw [List.getElem?_map, List.getElem?_take, if_pos hj.2] at hu
    simp [List.getElem?_eq_getElem hj.1] at hu
    simp [List.getD, List.getElem?_eq_getElem hj.1, hu]

/-- 'copy(dst, src)', dst a whole row of the call's own of n elements, src n elements somewhere: behind it the row holds src's cells. -/
theorem wpList_copy_full {P : Program} (w : World) {ops : Array Oper} {rest : List Oper} {o : Oper} {a : Act} {Q : Exit → Act → World → Prop}
    (hg : o.guard = none) (d s : Operand) (t : TypeId) (hop : o.op = Op.call { callee := Callee.builtin Builtin.copy, args := #[d, s], argTypes := #[t, t] })
    (base : Nat) (e : TypeId) (i : TypeInfo) (size : Nat) (h1 : P.underlying t = some (.slice e)) (h2 : P.info? e = some i) (h4 : i.size = size)
    (g n : Nat) (xs : List Value) (hd : a.eval d = .slice (some ⟨g, 0, none⟩) n n) (hown : w.ownsRow base e size (.slice (some ⟨g, 0, none⟩) n n) n xs)
    (ad : Addr) (c : Nat) (cs : List Value) (hs : a.eval s = .slice (some ad) n c) (hn : cs.length = n * size)
    (hc : ∀ j u, cs[j]? = some u → w.cell? (ad.add j) = some u) (h1c : ∀ u ∈ cs, u.oneCell' = true)
    (hK : ∀ w', w'.ownsRow base e size (.slice (some ⟨g, 0, none⟩) n n) n cs → w.grownBy w' (some g) → wpList P ops Q rest (a.put o.dst (.int .i64 n)) w') :
    wpList P ops Q (o :: rest) a w := by
  refine wpList_plain hg fun K hK' => ?_
  obtain ⟨hxl, h⟩ := hown
  rcases h with ⟨h, _⟩ | ⟨g', cap', cur, h, hbg, hgg, hnc, hcm, hcs, htake⟩
  · simp at h
  simp only [Value.slice.injEq, Option.some.injEq, Addr.mk.injEq, and_true, true_and] at h
  obtain ⟨rfl, rfl⟩ := h
  subst h4
  have hl := run_firstCells_some (P := P) w i.size n ad n c cs hn hc
  have hst := run_storeCells_at P g 0 e cs 0 cur w hgg (by simp [hcs, hn]) h1c
  have hfull : (cur.toList.take (0 + 0) ++ cs ++ cur.toList.drop (0 + 0 + cs.length)).toArray = cs.toArray := by
    have : cur.toList.drop cs.length = [] := by apply List.drop_eq_nil_of_le; simp [hcs, hn]
    simp [this]
  rw [hfull] at hst
  have hrun : (Builtin.copy_ #[t, t] o.type #[.slice (some ⟨g, 0, none⟩) n n, .slice (some ad) n c]).run P w = .ok (.int .i64 n) (w.setRow g cs.toArray) := by
    simp [Builtin.copy_, run_underlying h1, Builtin.lenOf, sizeOf, typeInfo, h2, hl, hst, goInt]
  unfold Oper.wp
  simp [execOp, hop, resolve, invoke, builtin, hd, hs, hrun, Result.andThen]
  refine hK' _ _ (hK _ ⟨hn, .inr ⟨g, n, cs.toArray, rfl, hbg, setRow_heap w g cur _ e _ hgg, hnc, hcm, by simpa using hn, ?_⟩⟩ ⟨rfl, rfl, rfl, by simp, fun k _ hk => setRow_other w g k _ (fun e => hk (by simp [e]))⟩)
  simp [← hn]

end Go.Proofs.Ybulkbykw

/- The law: the users' row, and small facts on the rows it builds. -/
import Derived.Test.YbulkbynaResidP
import Derived.Laws.CopyOwn
namespace Go.Proofs.Ybulkbyna
open Go.ChangeShapes Go.WideShapes Go.ChangeAt Go.RowKit
set_option linter.unusedVariables false

theorem info30 : (Yba.prog.info? 30).map (fun i => (i.zero, i.size, i.bytes)) = some (some (.agg #[.int .i8 0, .int .i8 0, .int .i8 0, .int .i8 0, .int .i8 0, .bool false]), 6, 6) := by kernel_rfl
theorem info42 : (Yba.prog.info? 42).map (fun i => (i.zero, i.size, i.bytes)) = some (some (.slice none 0 0), 1, 24) := by kernel_rfl
theorem info32 : (Yba.prog.info? 32).map (fun i => (i.zero, i.size, i.bytes)) = some (some (.slice none 0 0), 1, 24) := by kernel_rfl
theorem info3 : (Yba.prog.info? 3).map (fun i => (i.zero, i.size, i.bytes)) = some (some (.int .i64 0), 1, 8) := by kernel_rfl
theorem info46 : (Yba.prog.info? 46).map (fun i => (i.zero, i.size, i.bytes)) = some (some (.agg #[.int .i64 0, .float .f64 0]), 2, 16) := by kernel_rfl

def uCell (u : UserD) : Nat → Value
  | 0 => .int .i8 u.w | 1 => .int .i8 u.am | 2 => .int .i8 u.c | 3 => .int .i8 u.eta | 4 => .int .i8 u.lim | _ => .bool u.cap
def uCells (U : Nat → UserD) (n : Nat) : List Value := (List.range (n * 6)).map (fun i => uCell (U (i / 6)) (i % 6))
theorem uCells_len (U : Nat → UserD) (n : Nat) : (uCells U n).length = n * 6 := by simp [uCells]
theorem uCells_get (U : Nat → UserD) (n j k : Nat) (hj : j < n) (hk : k < 6) : (uCells U n)[j * 6 + k]? = some (uCell (U j) k) := by
  have h1 : (j * 6 + k) / 6 = j := by omega
  have h2 : (j * 6 + k) % 6 = k := by omega
  have h3 : j * 6 + k < n * 6 := by omega
  simp [uCells, h1, h2, h3]

def noUser : UserD := ⟨1, 1, 0, 0, 0, false⟩
/-- The users that the law takes: one of its own where none came in. -/
def usr (nu : Nat) (U : Nat → UserD) : Nat → UserD := if nu = 0 then fun _ => noUser else U
def num (nu : Nat) : Nat := if nu = 0 then 1 else nu

theorem copy_users {w w1 : World} {g nu cu : Nat} {au : Option Addr} {U : Nat → UserD} {xs : List Value} (hU : UsersOK w au nu U) (hb : Below w.heap.size w w1) (hB : Blk w1 g 30 xs) (hl : xs.length = num nu * 6) (hg : w.heap.size ≤ g) :
    ∃ w2, (∀ ty, (Builtin.copy_ #[23, 23] ty #[.slice (some ⟨g, 0, none⟩) (num nu) (num nu), .slice au nu cu]).run Yba.prog w1 = .ok (.int .i64 nu) w2) ∧ Below w.heap.size w w2 ∧ Blk w2 g 30 (if nu = 0 then xs else uCells U nu) := by
  obtain ⟨i, hi, hz0, hz1, hz2⟩ := info_parts info30
  by_cases h0 : nu = 0
  · subst h0
    refine ⟨w1, fun t => ?_, hb, hB⟩
    cases au <;> simp [Builtin.copy_, run_underlying Yba.underlying23, Builtin.lenOf, sizeOf, typeInfo, hi, goInt, num, Builtin.firstCells, loadCells, loadCellsFrom, storeCells]
  · obtain ⟨b, off, rfl, hlt, hc⟩ := hU.cells 0 (by omega)
    have hnum : num nu = nu := by unfold num; rw [if_neg h0]
    rw [hnum] at hl ⊢
    have hcs : ∀ j u, (uCells U nu)[j]? = some u → w1.cell? ((⟨b, off, none⟩ : Addr).add j) = some u := by
      intro j u hu
      have hj : j < nu * 6 := by have := (List.getElem?_eq_some_iff.1 hu).1; rwa [uCells_len] at this
      obtain ⟨q, hq⟩ : ∃ q, q = j / 6 := ⟨_, rfl⟩
      obtain ⟨r, hr⟩ : ∃ r, r = j % 6 := ⟨_, rfl⟩
      have hqr : j = q * 6 + r := by omega
      have hr6 : r < 6 := by omega
      have hqn : q < nu := by omega
      rw [hqr, uCells_get U nu q r hqn hr6] at hu
      rw [hqr, Addr.add_lit, hb.cell (p := ⟨b, off + (q * 6 + r), none⟩) hlt, ← hu, ← Nat.add_assoc]
      obtain ⟨c0, c1, c2, c3, c4, c5⟩ := hc q hqn
      have : r = 0 ∨ r = 1 ∨ r = 2 ∨ r = 3 ∨ r = 4 ∨ r = 5 := by omega
      rcases this with rfl | rfl | rfl | rfl | rfl | rfl
      · exact c0
      · exact c1
      · exact c2
      · exact c3
      · exact c4
      · exact c5
    have h1c : ∀ u ∈ uCells U nu, u.oneCell' = true := by
      intro u hu
      simp only [uCells, List.mem_map] at hu
      obtain ⟨k, _, rfl⟩ := hu
      unfold uCell
      split <;> rfl
    have hfc := run_firstCells_some (P := Yba.prog) w1 i.size nu ⟨b, off, none⟩ nu cu (uCells U nu) (by rw [uCells_len, hz1]) hcs
    have hst := run_storeCells_at Yba.prog g 0 30 (uCells U nu) 0 xs.toArray w1 hB (by simp [uCells_len, hl]) h1c
    have hfull : (xs.toArray.toList.take (0 + 0) ++ uCells U nu ++ xs.toArray.toList.drop (0 + 0 + (uCells U nu).length)).toArray = (uCells U nu).toArray := by
      have : xs.toArray.toList.drop (uCells U nu).length = [] := by apply List.drop_eq_nil_of_le; simp [hl, uCells_len]
      simp [this]
    rw [hfull] at hst
    refine ⟨w1.setRow g (uCells U nu).toArray, fun t => ?_, ?_, ?_⟩
    · simp [Builtin.copy_, run_underlying Yba.underlying23, Builtin.lenOf, sizeOf, typeInfo, hi, hfc, hst, goInt]
    · have hgr : w1.grownBy (w1.setRow g (uCells U nu).toArray) (some g) := ⟨rfl, rfl, rfl, by simp, fun k _ hk => setRow_other w1 g k _ (fun e => hk (by simp [e]))⟩
      exact hb.grown hgr hb.size (fun k h => by cases h; exact hg)
    · rw [if_neg h0]
      exact setRow_heap w1 g xs.toArray _ 30 _ hB
end Go.Proofs.Ybulkbyna

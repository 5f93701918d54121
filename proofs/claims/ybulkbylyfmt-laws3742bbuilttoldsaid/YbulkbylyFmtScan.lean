/- The scanner's small functions, slices.Clone, slices.Equal and fmt.Errorf at this program: what each computes. -/
import Derived.Test.YbulkbylyFmtRows
import Derived.Test.YbulkbylyFmtFmt
import Derived.WalkKit
import Derived.WalkSpells
import Derived.ProofKit
import Derived.OpenShut
import Derived.Below
import Derived.Handy
import Derived.Maps.AppendAt
import Derived.Lib.SliceRun
import Derived.Deep.Draws
import Derived.BigQuiet
import Derived.Deep.QuietTactic
namespace Go.Proofs.YbulkbylyFmt
open Go.ChangeShapes Go.WideShapes Go.ChangeAt Go.RowKit
open Go.Extern.Stop Go.Stop Go.Extern
set_option linter.unusedVariables false

theorem info5 : (Ybaf.prog.info? 5).map (fun i => (i.zero, i.size, i.bytes)) = some (some (.int .u8 0), 1, 1) := by kernel_rfl

/-- n bytes lie there. -/
def Bytes (w : World) (b off n : Nat) (xs : List Int) : Prop := ∀ j, j < n → w.cell? ⟨b, off + j, none⟩ = some (.int .u8 (xs.getD j 0))
theorem Bytes.lt {w : World} {b off n : Nat} {xs : List Int} (h : Bytes w b off n xs) (hn : 0 < n) : b < w.heap.size := World.block_lt_of_cell? w ⟨b, off + 0, none⟩ (h 0 hn)
theorem Bytes.below {w w' : World} {b off n k : Nat} {xs : List Int} (h : Bytes w b off n xs) (hb : Below k w w') (hk : b < k) : Bytes w' b off n xs := fun j hj => by
  rw [hb.cell (p := ⟨b, off + j, none⟩) hk]; exact h j hj
theorem Bytes.of_own {w : World} {base n g cap : Nat} {xs : List Int} (hl : xs.length = n) (h : w.ownsRow base 5 1 (.slice (some ⟨g, 0, none⟩) n cap) n (xs.map (Value.int .u8))) : Bytes w g 0 n xs := fun j hj => by
  have hx : (xs.map (Value.int .u8))[j]? = some (.int .u8 (xs.getD j 0)) := by
    rw [List.getElem?_map, List.getElem?_eq_getElem (by omega : j < xs.length)]
    simp [List.getD, List.getElem?_eq_getElem (by omega : j < xs.length)]
  have := h.cells (g := g) rfl j _ hx
  rw [Addr.add_lit] at this
  exact this

set_option maxRecDepth 100000 in
set_option maxHeartbeats 2000000 in
/-- slices.Clone, of a slice that is not nil. -/
theorem clone_any (b off n c : Nat) (xs : List Int) (w : World) (hx : xs.length = n) (hn : n ≤ 4096) (h : Bytes w b off n xs) :
    Calls Ybaf.prog 5 #[.slice (some ⟨b, off, none⟩) n c] w fun e w' => ∃ g cap, e = .returned (.slice (some ⟨g, 0, none⟩) n cap) ∧ w'.ownsRow w.heap.size 5 1 (.slice (some ⟨g, 0, none⟩) n cap) n (xs.map (Value.int .u8)) ∧ Below w.heap.size w w' := by
  obtain ⟨i0, hi, hz0, hz1, hz2⟩ := info_parts info5
  have q22 : ∀ (w : World) (a : Option Addr) (n c n' c' : Nat), (binOp .eql 22 (.slice a n c) (.slice none n' c')).run Ybaf.prog w = .ok (.bool a.isNone) w := fun w a n c n' c' => Lib.run_eql_slice_nil w _ _ a n c n' c' Ybaf.underlying22
  have A : Hid (Bytes w b off n xs) := h
  clear h
  go_enter Ybaf.func5, Ybaf.ntmps5
  go_wp2_with (at_builtin; refine wpList_append_own_at _ rfl _ _ 22 rfl w.heap.size 5 i0 (.int .u8 0) 1 1 Ybaf.underlying22 hi hz0 hz1 hz2 rfl (by decide) _ _ _ rfl (World.ownsRow_made w #[] 0 (Nat.le_refl _) (Nat.zero_le _) rfl) ⟨b, off, none⟩ n c (xs.map (Value.int .u8)) rfl ?qc1 ?qc2 ?qc3 ?qc4 ?qc5 ?qc6 ?_)
  case qc1 => simp; omega
  case qc2 =>
    intro j u hj
    have hjn : j < xs.length := by
      have := (List.getElem?_eq_some_iff.1 hj).1
      simpa using this
    rw [Addr.add_lit]
    refine Lib.cell?_alloc_some _ ?_
    rw [A.out j (by omega)]
    have e : (xs.map (Value.int .u8))[j]? = some (Value.int .u8 (xs.getD j 0)) := by simp [List.getD, List.getElem?_eq_getElem hjn]
    rw [e] at hj
    exact hj
  case qc3 => intro u hu; obtain ⟨x, _, rfl⟩ := List.mem_map.1 hu; rfl
  case qc4 => unfold maxLen; omega
  case qc5 => omega
  case qc6 => simp
  intro v' w1 hown hgrow hnil hat
  go_wp2
  go_ret
  have hb : Below w.heap.size w w1 := ((Below.refl _ w).alloc (Nat.le_refl _) _).grown hgrow (by simp) (by intro k hk; simp [Value.ownBlock] at hk; omega)
  have hown' : w1.ownsRow w.heap.size 5 1 v' n (xs.map (Value.int .u8)) := by simpa using hown
  rcases hown'.2 with ⟨h1, _⟩ | ⟨g, cap, cur, rfl, _⟩
  · exact absurd h1 hnil
  · exact ⟨g, cap, rfl, hown', hb⟩

/-- The same of nil. -/
theorem clone_nil (w : World) : Calls Ybaf.prog 5 #[.slice none 0 0] w fun e w' => e = .returned (.slice none 0 0) ∧ w' = w := by
  have q22 : ∀ (w : World) (a : Option Addr) (n c n' c' : Nat), (binOp .eql 22 (.slice a n c) (.slice none n' c')).run Ybaf.prog w = .ok (.bool a.isNone) w := fun w a n c n' c' => Lib.run_eql_slice_nil w _ _ a n c n' c' Ybaf.underlying22
  go_enter Ybaf.func5, Ybaf.ntmps5
  go_wp2
  go_ret
  exact ⟨rfl, rfl⟩

def intOf : Value → Int | .int _ q => q | _ => 0

set_option maxRecDepth 100000 in
set_option maxHeartbeats 2000000 in
/-- slices.Equal, where both hold the same bytes. -/
theorem equal_any (b off c b' off' c' n : Nat) (xs : List Int) (w : World) (hn : n ≤ 4096) (h : Bytes w b off n xs) (h' : Bytes w b' off' n xs) :
    Calls Ybaf.prog 8 #[.slice (some ⟨b, off, none⟩) n c, .slice (some ⟨b', off', none⟩) n c'] w fun e w' => e = .returned (.bool true) ∧ ∃ q, w' = w.drewN q := by
  have A : Hid (Bytes w b off n xs) := h
  have A' : Hid (Bytes w b' off' n xs) := h'
  clear h h'
  go_enter Ybaf.func8, Ybaf.ntmps8
  go_wp2
  go_loopw [13] (fun i wr => ∃ k : Nat, k ≤ n ∧ i = .int .i64 k ∧ ∃ q, wr = w.drewN q) (fun i _ => n - (intOf i).toNat)
  case atStart => exact ⟨0, by omega, rfl, 0, rfl⟩
  case round =>
    obtain ⟨k, hk, rfl, q, rfl⟩ := hrel
    by_cases hkn : k < n
    · have c1 := A.out k hkn
      have c2 := A'.out k hkn
      generalize xs.getD k 0 = v at *
      go_wp2
      go_region
      go_wp2
      exact ⟨⟨k + 1, by omega, by go_num, _, rfl⟩, by simp [intOf]; omega⟩
    · go_wp2
      go_ret
      exact ⟨rfl, q, rfl⟩

/-- The byte at k, or 0 at the end. -/
def peekV (xs : List Int) (n k : Nat) : Int := if k < n then xs.getD k 0 else 0
/-- White space. -/
def Space (x : Int) : Prop := x = 32 ∨ x = 9 ∨ x = 10 ∨ x = 13

/-- The scanner lies at S: its data v, its position k; below S nothing has turned since w. -/
structure Sc (S : Nat) (v : Value) (k : Nat) (w wr : World) : Prop where
  bel : Below S w wr
  c0 : wr.cell? ⟨S, 0, none⟩ = some v
  c1 : wr.cell? ⟨S, 1, none⟩ = some (.int .i64 k)
  fz : ∀ j, wr.frozen? ⟨S, j, none⟩ = false
theorem Sc.draws {S : Nat} {v : Value} {k : Nat} {w wr : World} (h : Sc S v k w wr) (q : Nat) : Sc S v k w (wr.drewN q) := ⟨⟨h.bel.os, h.bel.tape, h.bel.output, h.bel.size, h.bel.block⟩, h.c0, h.c1, h.fz⟩
theorem Sc.set {S : Nat} {v : Value} {k : Nat} {w wr : World} (h : Sc S v k w wr) (k' : Nat) : Sc S v k' w (wr.setCell ⟨S, 1, none⟩ (.int .i64 k')) :=
  ⟨h.bel.setCell (Nat.le_refl _) _, by rw [World.cell?_setCell_other wr _ _ _ (by simp)]; exact h.c0, World.cell?_setCell_same wr _ _ h.c1, fun j => by rw [World.frozen?_setCell]; exact h.fz j⟩

/-- The scanner's position. -/
def posOf (S : Nat) (w : World) : Nat := match w.cell? ⟨S, 1, none⟩ with | some v => (intOf v).toNat | none => 0
theorem posOf_eq {S k : Nat} {w : World} (h : w.cell? ⟨S, 1, none⟩ = some (.int .i64 k)) : posOf S w = k := by unfold posOf; rw [h]; simp [intOf]

/-- scanner.peek: the next byte, or 0. -/
theorem peek_any (S b off n c q : Nat) (xs : List Int) (w0 w : World) (hn : n ≤ 4096) (hq : q ≤ n) (hb : b < S) (A : Bytes w0 b off n xs) (h : Sc S (.slice (some ⟨b, off, none⟩) n c) q w0 w) :
    Calls Ybaf.prog 15 #[.pointer (some ⟨S, 0, none⟩)] w fun e w' => e = .returned (.int .u8 (peekV xs n q)) ∧ ∃ r, w' = w.drewN r := by
  have h0 := h.c0
  have h1 := h.c1
  by_cases hlt : q < n
  · have hx := (A.below h.bel hb) q hlt
    have hpv : peekV xs n q = xs.getD q 0 := by unfold peekV; rw [if_pos hlt]
    rw [hpv]
    clear hpv h A
    generalize xs.getD q 0 = x at *
    have hne : ((q : Int) == (n : Int)) = false := by simp; omega
    go_enter Ybaf.func15, Ybaf.ntmps15
    go_wp2
    go_region
    go_wp2
    go_region
    go_wp2
    go_ret
    exact ⟨rfl, 2, rfl⟩
  · obtain rfl : q = n := by omega
    have hpv : peekV xs q q = 0 := by unfold peekV; rw [if_neg hlt]
    rw [hpv]
    clear hpv h A
    go_enter Ybaf.func15, Ybaf.ntmps15
    go_wp2
    go_region
    go_wp2
    go_ret
    exact ⟨rfl, 1, rfl⟩

/-- scanner.at. -/
theorem at_any (S b off n c q : Nat) (xs : List Int) (x : Int) (w0 w : World) (hn : n ≤ 4096) (hq : q ≤ n) (hb : b < S) (A : Bytes w0 b off n xs) (h : Sc S (.slice (some ⟨b, off, none⟩) n c) q w0 w) :
    Calls Ybaf.prog 12 #[.pointer (some ⟨S, 0, none⟩), .int .u8 x] w fun e w' => e = .returned (.bool (peekV xs n q == x)) ∧ ∃ r, w' = w.drewN r := by
  have HP : Hid (Calls Ybaf.prog 15 #[.pointer (some ⟨S, 0, none⟩)] w fun e w' => e = .returned (.int .u8 (peekV xs n q)) ∧ ∃ r, w' = w.drewN r) := peek_any S b off n c q xs w0 w hn hq hb A h
  clear A h
  generalize peekV xs n q = y at *
  go_enter Ybaf.func12, Ybaf.ntmps12
  go_wp2_with (go_at_call 15; refine HP.out.mono ?_; rintro e w' ⟨rfl, r, rfl⟩)
  go_ret
  exact ⟨rfl, r, rfl⟩

set_option maxRecDepth 100000 in
set_option maxHeartbeats 2000000 in
/-- scanner.skipSpace. -/
theorem skip_any (S b off n c p : Nat) (xs : List Int) (w0 w : World) (hn : n ≤ 4096) (hp : p ≤ n) (hb : b < S) (A : Bytes w0 b off n xs) (h : Sc S (.slice (some ⟨b, off, none⟩) n c) p w0 w) :
    Calls Ybaf.prog 11 #[.pointer (some ⟨S, 0, none⟩)] w fun e w' => e = .returned (.tuple #[]) ∧ ∃ q, p ≤ q ∧ q ≤ n ∧ (∀ j, p ≤ j → j < q → Space (xs.getD j 0)) ∧ ¬ Space (peekV xs n q) ∧ Sc S (.slice (some ⟨b, off, none⟩) n c) q w0 w' := by
  have A' : Hid (Bytes w0 b off n xs) := A
  have H0 : Hid (Sc S (.slice (some ⟨b, off, none⟩) n c) p w0 w) := h
  clear A h
  go_enter Ybaf.func11, Ybaf.ntmps11
  go_wp2
  go_loopw [2] (fun _ wr => ∃ k, p ≤ k ∧ k ≤ n ∧ (∀ j, p ≤ j → j < k → Space (xs.getD j 0)) ∧ Sc S (.slice (some ⟨b, off, none⟩) n c) k w0 wr) (fun _ wr => n - posOf S wr)
  case atStart => exact ⟨p, Nat.le_refl _, hp, fun j h1 h2 => absurd h1 (by omega), H0.out⟩
  case round =>
    clear H0
    obtain ⟨k, h1, h2, h3, h4⟩ := hrel
    have HP : Hid (Calls Ybaf.prog 15 #[.pointer (some ⟨S, 0, none⟩)] wr fun e w' => e = .returned (.int .u8 (peekV xs n k)) ∧ ∃ r, w' = wr.drewN r) := peek_any S b off n c k xs w0 wr hn h2 hb A'.out h4
    have H3 : Hid (∀ j, p ≤ j → j < k → Space (xs.getD j 0)) := h3
    have H4 : Hid (Sc S (.slice (some ⟨b, off, none⟩) n c) k w0 wr) := h4
    have c1 := h4.c1
    have fz := h4.fz
    clear h3 h4
    have hend : ¬ k < n → peekV xs n k = 0 := fun h => by unfold peekV; rw [if_neg h]
    have hin : k < n → peekV xs n k = xs.getD k 0 := fun h => by unfold peekV; rw [if_pos h]
    by_cases hsp : Space (peekV xs n k)
    · have hkn : k < n := by
        by_cases hc : k < n
        · exact hc
        · rw [hend hc] at hsp; simp [Space] at hsp
      have HS : Hid (Space (xs.getD k 0)) := by rw [← hin hkn]; exact hsp
      clear hend hin
      rcases hsp with e | e | e | e
      all_goals
        rw [e] at HP
        clear e
        go_wp2_with (go_at_call 15; refine HP.out.mono ?_; rintro e w' ⟨rfl, r, rfl⟩)
        refine ⟨⟨k + 1, by omega, by omega, fun j h1 h2 => ?_, ?_⟩, ?_⟩
        · by_cases hj : j < k
          · exact H3.out j h1 hj
          · obtain rfl : j = k := by omega
            exact HS.out
        · exact (H4.out.draws r).set (k + 1)
        · have e1 := posOf_eq ((H4.out.draws r).set (k + 1)).c1
          have e2 := posOf_eq H4.out.c1
          show n - posOf S ((wr.drewN r).setCell ⟨S, 1, none⟩ (.int .i64 ((k + 1 : Nat) : Int))) < n - posOf S wr
          rw [e1, e2]
          omega
    · have n1 : (peekV xs n k == 32) = false := by simp; exact fun h => hsp (Or.inl h)
      have n2 : (peekV xs n k == 9) = false := by simp; exact fun h => hsp (Or.inr (Or.inl h))
      have n3 : (peekV xs n k == 10) = false := by simp; exact fun h => hsp (Or.inr (Or.inr (Or.inl h)))
      have n4 : (peekV xs n k == 13) = false := by simp; exact fun h => hsp (Or.inr (Or.inr (Or.inr h)))
      have HN : Hid (¬ Space (peekV xs n k)) := hsp
      clear hsp hend hin
      go_wp2_with (go_at_call 15; refine HP.out.mono ?_; rintro e w' ⟨rfl, r, rfl⟩)
      go_returns
      exact ⟨rfl, k, h1, h2, H3.out, HN.out, H4.out.draws r⟩

/-- scanner.open, too deep: an error, and nothing that was there has turned. -/
theorem open_deep (F : Interp) (S : Nat) (v : Value) (p : Nat) (dep x : Int) (w0 w : World) (hF : F.answers w.tape) (hS : S < w.heap.size) (hp : p ≤ 4096) (hd : 10000 < dep) (h : Sc S v p w0 w) :
    Calls Ybaf.prog 7 #[.pointer (some ⟨S, 0, none⟩), .int .i64 dep, .int .u8 x] w fun e w' => ∃ a, e = .returned (.tuple #[.bool false, .iface 42 (.pointer (some a))]) ∧ Below w.heap.size w w' := by
  have hF' : ∀ i name reading k range, w.tape i (.extern (word name reading k) range) = F name reading k := hF
  have c0 := h.c0
  have c1 := h.c1
  have hdd : decide (10000 < dep) = true := by simp; exact hd
  clear h
  go_enter Ybaf.func7, Ybaf.ntmps7
  go_wp2
  go_returns
  exact ⟨_, rfl, (((Below.refl _ w).alloc (Nat.le_refl _) _).alloc (by simp) _).drew⟩

/-- scanner.open, not too deep. -/
theorem open_ok (S b off n c p : Nat) (xs : List Int) (dep x : Int) (w0 w : World) (hn : n ≤ 4096) (hp : p < n) (hb : b < S) (hd : dep ≤ 10000) (A : Bytes w0 b off n xs) (h : Sc S (.slice (some ⟨b, off, none⟩) n c) p w0 w) :
    Calls Ybaf.prog 7 #[.pointer (some ⟨S, 0, none⟩), .int .i64 dep, .int .u8 x] w fun e w' => ∃ q, p + 1 ≤ q ∧ q ≤ n ∧ (∀ j, p + 1 ≤ j → j < q → Space (xs.getD j 0)) ∧ ¬ Space (peekV xs n q) ∧ e = .returned (.tuple #[.bool (peekV xs n q == x), .nilIface]) ∧ Sc S (.slice (some ⟨b, off, none⟩) n c) (if peekV xs n q == x then q + 1 else q) w0 w' := by
  have hdd : decide (10000 < dep) = false := by simp; exact hd
  have H0 : Hid (Sc S (.slice (some ⟨b, off, none⟩) n c) (p + 1) w0 (w.setCell ⟨S, 1, none⟩ (.int .i64 ((p : Int) + 1)))) := h.set (p + 1)
  have A' : Hid (Bytes w0 b off n xs) := A
  have c1 := h.c1
  have fz := h.fz
  clear h A
  go_enter Ybaf.func7, Ybaf.ntmps7
  go_wp2_with (go_at_call 11; refine (skip_any S b off n c (p + 1) xs w0 _ hn (by omega) hb A'.out H0.out).mono ?_; rintro e w1 ⟨rfl, q, q1, q2, q3, q4, h1⟩; have HQ : Hid ((∀ j, p + 1 ≤ j → j < q → Space (xs.getD j 0)) ∧ ¬ Space (peekV xs n q)) := ⟨q3, q4⟩; have H1 : Hid (Sc S (.slice (some ⟨b, off, none⟩) n c) q w0 w1) := h1; clear q3 q4 h1 c1 fz H0)
  refine (at_any S b off n c q xs x w0 w1 hn q2 hb A'.out H1.out).mono ?_
  rintro e w2 ⟨rfl, r, rfl⟩
  have c1 := H1.out.c1
  have fz := H1.out.fz
  cases he : (peekV xs n q == x) with
  | true =>
    go_wp2
    go_returns
    refine ⟨q, q1, q2, HQ.out.1, HQ.out.2, by rw [he]; rfl, ?_⟩
    rw [if_pos he]
    exact (H1.out.draws r).set (q + 1)
  | false =>
    go_wp2
    go_returns
    refine ⟨q, q1, q2, HQ.out.1, HQ.out.2, by rw [he]; rfl, ?_⟩
    rw [if_neg (by rw [he]; simp)]
    exact H1.out.draws r
end Go.Proofs.YbulkbylyFmt

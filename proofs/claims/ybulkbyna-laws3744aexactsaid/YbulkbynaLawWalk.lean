/- The law: its items one after the other. -/
import Derived.Test.YbulkbynaLawA
import Derived.Test.YbulkbynaLaw2
import Derived.Test.YbulkbynaLaw4
import Derived.Test.YbulkbynaLaw5
import Derived.Test.YbulkbynaLawD
import Derived.Test.YbulkbynaLaw7
import Derived.Test.YbulkbynaLaw9
namespace Go.Proofs.Ybulkbyna
open Go.ChangeShapes Go.WideShapes Go.ChangeAt Go.RowKit
set_option linter.unusedVariables false

set_option maxRecDepth 1000000 in
set_option maxHeartbeats 4000000 in
theorem it27 {I : Inp} {b r : Nat → Nat} {bR : Nat} {g : Nat → Value} {w : World} (hb : BaseR I b bR g) (hF : FW I b r bR w) :
    (tailN 27 lawBody).wp Yba.prog (bodyPost Yba.prog Yba.f3 (RQ I)) (Fr g) w := by
  rw [Fr_lit, hb.base.s0, hb.base.s1, hb.base.s2, hb.base.s9, hb.base.s10, hb.base.s11, hb.base.s12, hb.base.s13, hb.base.s14, hb.s25]
  have HB : Hid (Below I.w0.heap.size I.w0 w) := hF.bld.bel
  clear hb hF
  conv => arg 2; whnf
  go_wp2
  go_ret
  exact ⟨rfl, HB.out⟩
theorem tail0 : tailN 0 lawBody = (item 0).seq (tailN 1 lawBody) := by kernel_rfl
theorem tail1 : tailN 1 lawBody = (item 1).seq (tailN 2 lawBody) := by kernel_rfl
theorem tail2 : tailN 2 lawBody = (item 2).seq (tailN 3 lawBody) := by kernel_rfl
theorem tail3 : tailN 3 lawBody = (item 3).seq (tailN 4 lawBody) := by kernel_rfl
theorem tail4 : tailN 4 lawBody = (item 4).seq (tailN 5 lawBody) := by kernel_rfl
theorem tail5 : tailN 5 lawBody = (item 5).seq (tailN 6 lawBody) := by kernel_rfl
theorem tail6 : tailN 6 lawBody = (item 6).seq (tailN 7 lawBody) := by kernel_rfl
theorem tail7 : tailN 7 lawBody = (item 7).seq (tailN 8 lawBody) := by kernel_rfl
theorem tail8 : tailN 8 lawBody = (item 8).seq (tailN 9 lawBody) := by kernel_rfl
theorem tail9 : tailN 9 lawBody = (item 9).seq (tailN 10 lawBody) := by kernel_rfl
theorem tail10 : tailN 10 lawBody = (item 10).seq (tailN 11 lawBody) := by kernel_rfl
theorem tail11 : tailN 11 lawBody = (item 11).seq (tailN 12 lawBody) := by kernel_rfl
theorem tail12 : tailN 12 lawBody = (item 12).seq (tailN 13 lawBody) := by kernel_rfl
theorem tail13 : tailN 13 lawBody = (item 13).seq (tailN 14 lawBody) := by kernel_rfl
theorem tail14 : tailN 14 lawBody = (item 14).seq (tailN 15 lawBody) := by kernel_rfl
theorem tail15 : tailN 15 lawBody = (item 15).seq (tailN 16 lawBody) := by kernel_rfl
theorem tail16 : tailN 16 lawBody = (item 16).seq (tailN 17 lawBody) := by kernel_rfl
theorem tail17 : tailN 17 lawBody = (item 17).seq (tailN 18 lawBody) := by kernel_rfl
theorem tail18 : tailN 18 lawBody = (item 18).seq (tailN 19 lawBody) := by kernel_rfl
theorem tail19 : tailN 19 lawBody = (item 19).seq (tailN 20 lawBody) := by kernel_rfl
theorem tail20 : tailN 20 lawBody = (item 20).seq (tailN 21 lawBody) := by kernel_rfl
theorem tail21 : tailN 21 lawBody = (item 21).seq (tailN 22 lawBody) := by kernel_rfl
theorem tail22 : tailN 22 lawBody = (item 22).seq (tailN 23 lawBody) := by kernel_rfl
theorem tail23 : tailN 23 lawBody = (item 23).seq (tailN 24 lawBody) := by kernel_rfl
theorem tail24 : tailN 24 lawBody = (item 24).seq (tailN 25 lawBody) := by kernel_rfl
theorem tail25 : tailN 25 lawBody = (item 25).seq (tailN 26 lawBody) := by kernel_rfl
theorem tail26 : tailN 26 lawBody = (item 26).seq (tailN 27 lawBody) := by kernel_rfl

set_option maxRecDepth 1000000 in
set_option maxHeartbeats 4000000 in
theorem law_wp {I : Inp} (hI : I.Ok) {g : Nat → Value} {w : World} (h : S3 I g w) : (tailN 0 lawBody).wp Yba.prog (bodyPost Yba.prog Yba.f3 (RQ I)) (Fr g) w := by
  rw [tail0]
  refine seq_mid (it0 h _) ?_
  rintro _ w0 ⟨g0, rfl, h⟩
  rw [tail1]
  refine seq_mid (it1 hI h _) ?_
  rintro _ w1 ⟨g1, rfl, h⟩
  rw [tail2]
  refine seq_mid (it2 hI h) ?_
  rintro _ w2 ⟨g2, rfl, ⟨h, hE⟩⟩
  rw [tail3]
  refine seq_mid (it3 h _) ?_
  rintro _ w3 ⟨g3, rfl, ⟨h, h9⟩⟩
  rw [tail4]
  refine seq_mid (it4 h h9 _) ?_
  rintro _ w4 ⟨g4, rfl, ⟨h, h9⟩⟩
  rw [tail5]
  refine seq_mid (it5 hI h h9 _) ?_
  rintro _ w5 ⟨g5, rfl, ⟨b0, hu⟩⟩
  rw [tail6]
  refine seq_mid (it6 hI hu _) ?_
  rintro _ w6 ⟨g6, rfl, hu⟩
  rw [tail7]
  refine seq_mid (it7 hu _) ?_
  rintro _ w7 ⟨g7, rfl, hu⟩
  rw [tail8]
  refine seq_mid (it8 hu _) ?_
  rintro _ w8 ⟨g8, rfl, ⟨hu, h11⟩⟩
  rw [tail9]
  refine seq_mid (it9 hu h11 _) ?_
  rintro _ w9 ⟨g9, rfl, hp⟩
  rw [tail10]
  refine seq_mid (it10 hI hp _) ?_
  rintro _ w10 ⟨g10, rfl, hq⟩
  rw [tail11]
  refine seq_mid (it11 hI hq _) ?_
  rintro _ w11 ⟨g11, rfl, hq⟩
  rw [tail12]
  refine seq_mid (it12 hI hq _) ?_
  rintro _ w12 ⟨g12, rfl, hq⟩
  rw [tail13]
  refine seq_mid (it13 hI hq _) ?_
  rintro _ w13 ⟨g13, rfl, hq⟩
  rw [tail14]
  refine seq_mid (it14 hI hq _) ?_
  rintro _ w14 ⟨g14, rfl, hq⟩
  rw [tail15]
  refine seq_mid (it15 hI hq _) ?_
  rintro _ w15 ⟨g15, rfl, hq⟩
  rw [tail16]
  refine seq_mid (it16 hI hq _) ?_
  rintro _ w16 ⟨g16, rfl, hq⟩
  rw [tail17]
  refine seq_mid (it17 hI hq _) ?_
  rintro _ w17 ⟨g17, rfl, ⟨b, hb, hB⟩⟩
  rw [tail18]
  refine seq_mid (it18 hI hE hb hB _) ?_
  rintro _ w18 ⟨g18, rfl, ⟨hb, hB⟩⟩
  rw [tail19]
  refine seq_mid (it19 hI hb hB _) ?_
  rintro _ w19 ⟨g19, rfl, ⟨hb, hB⟩⟩
  rw [tail20]
  refine seq_mid (it20 hI hb hB _) ?_
  rintro _ w20 ⟨g20, rfl, ⟨hb, hB⟩⟩
  rw [tail21]
  refine seq_mid (it21 hI hE hb hB _) ?_
  rintro _ w21 ⟨g21, rfl, ⟨r, bR, hr, hF⟩⟩
  rw [tail22]
  refine seq_mid (it22 hr hF _) ?_
  rintro _ w22 ⟨g22, rfl, ⟨hr, hF⟩⟩
  rw [tail23]
  refine seq_mid (it23 hI hr hF _) ?_
  rintro _ w23 ⟨g23, rfl, ⟨hr, hF⟩⟩
  rw [tail24]
  refine seq_mid (it24 hI hE hr hF _) ?_
  rintro _ w24 ⟨g24, rfl, ⟨hr, hF⟩⟩
  rw [tail25]
  refine seq_mid (it25 hI hE hr hF _) ?_
  rintro _ w25 ⟨g25, rfl, ⟨hr, hF⟩⟩
  rw [tail26]
  refine seq_mid (it26 hI hr hF _) ?_
  rintro _ w26 ⟨g26, rfl, ⟨hr, hF⟩⟩
  exact it27 hr hF

set_option maxRecDepth 1000000 in
set_option maxHeartbeats 4000000 in
theorem exact_in {I : Inp} (hI : I.Ok) : Calls Yba.prog 3 #[.slice I.av I.nv I.cv, .slice I.au I.nu I.cu, .slice I.ar I.nr I.cr] I.w0 (RQ I) := by
  have hs : (#[Value.slice I.av I.nv I.cv, .slice I.au I.nu I.cu, .slice I.ar I.nr I.cr] ++ Array.replicate (Yba.f3.ntmps - 3) undef).size = 566 := by simp [Yba.ntmps3]
  refine calls_of_wp Yba.func3 (c := lawBody) (by kernel_rfl) ?_
  show lawBody.wp Yba.prog _ ⟨#[Value.slice I.av I.nv I.cv, .slice I.au I.nu I.cu, .slice I.ar I.nr I.cr] ++ Array.replicate (Yba.f3.ntmps - 3) undef, []⟩ _
  rw [fr_self _ hs]
  exact law_wp hI ⟨Below.refl _ _, by kernel_rfl, by kernel_rfl, by kernel_rfl⟩

set_option maxRecDepth 1000000 in
set_option maxHeartbeats 4000000 in
theorem exact_any (av : Option Addr) (nv cv : Nat) (V : Nat → VarD) (au : Option Addr) (nu cu : Nat) (U : Nat → UserD) (ar : Option Addr) (nr cr : Nat) (R : Nat → Int × Int) (w : World)
    (hV : VarsOK w av nv V) (hU : UsersOK w au nu U) (hR : RowsOK w ar nr R) :
    Calls Yba.prog 3 #[.slice av nv cv, .slice au nu cu, .slice ar nr cr] w fun e w' => e = .returned (.bool true) ∧ Below w.heap.size w w' := by
  by_cases h1 : nv ≤ 300
  · by_cases h2 : nu ≤ 300
    · by_cases h3 : nr ≤ 300
      · exact exact_in (I := ⟨w, av, nv, cv, V, au, nu, cu, U, ar, nr, cr, R⟩) ⟨hV, hU, hR, h1, h2, h3⟩
      · have d1 : decide (300 < (nv : Int)) = false := by simp; omega
        have d2 : decide (300 < (nu : Int)) = false := by simp; omega
        have d3 : decide (300 < (nr : Int)) = true := by simp; omega
        clear hV hU hR h1 h2 h3
        go_enter Yba.func3, Yba.ntmps3
        go_wp2
        go_ret
        exact ⟨rfl, Below.refl _ _⟩
    · have d1 : decide (300 < (nv : Int)) = false := by simp; omega
      have d2 : decide (300 < (nu : Int)) = true := by simp; omega
      clear hV hU hR h1 h2
      go_enter Yba.func3, Yba.ntmps3
      go_wp2
      go_ret
      exact ⟨rfl, Below.refl _ _⟩
  · have d1 : decide (300 < (nv : Int)) = true := by simp; omega
    clear hV hU hR h1
    go_enter Yba.func3, Yba.ntmps3
    go_wp2
    go_ret
    exact ⟨rfl, Below.refl _ _⟩
end Go.Proofs.Ybulkbyna

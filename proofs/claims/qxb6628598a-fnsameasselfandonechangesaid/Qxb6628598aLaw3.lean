import Derived.Test.Qxb6628598aChgAny
import Derived.Test.Qxb6628598aBuildBig
namespace Go.Proofs.Qxb6628598a
open Go.ChangeShapes Go.WideShapes Go.ChangeAt Go.RowKit

set_option maxRecDepth 100000 in
set_option maxHeartbeats 8000000 in
theorem law3_a (ls : List Lvl) (ao1 : Option Addr) (c1 : Nat) (k which : Int) (w : World) (h1 : LvlsAt w w.heap.size ao1 ls) (hc1 : ao1 = none → c1 = 0) :
    Calls Try.prog 3 #[.slice ao1 ls.length c1, .int .i64 k, .int .i64 which] w fun e w' => e = .returned (.bool true) ∧ Below w.heap.size w w' := by
  have H1 : Hid (LvlsAt w w.heap.size ao1 ls) := h1
  clear h1
  go_enter Try.func3, Try.ntmps3
  go_wp2_with fail
  refine (zz5_any ls ao1 c1 w.heap.size k which w H1.out).mono ?_
  rintro e w' ⟨b, rfl, rfl⟩
  cases b
  · go_wp2_with fail
    go_ret
    exact ⟨rfl, Below.refl _ _⟩
  go_wp2_with fail
  refine (big_any ls [] ao1 none c1 0 w.heap.size w H1.out (.inl rfl)).mono ?_
  rintro e w1 ⟨b, rfl, ⟨n1, rfl⟩, hb⟩
  have HBw1 : Hid (Below w.heap.size w (w.drewN n1)) := below_drewN (Below.refl _ _) n1
  have hzw1 : w.heap.size ≤ (w.drewN n1).heap.size := Nat.le_refl _
  generalize w.drewN n1 = w1 at *
  cases b
  case true =>
    clear hb
    go_wp2_with fail
    go_ret
    exact ⟨rfl, HBw1.out⟩
  case false =>
    obtain ⟨hn1, _, hs1, _⟩ := hb rfl
    have HS1 : Hid (∀ l ∈ ls, Small l) := hs1
    clear hb hs1
    go_wp2_with fail
    refine (levels_any ls ao1 c1 w.heap.size w1 (H1.out.later HBw1.out (Nat.le_refl _) (Nat.le_refl _)) hzw1 hc1 hn1 (fun l hl => (HS1.out l hl).1)).mono ?_
    rintro e w3 ⟨aoA, cA, rfl, hLA, hcA, hcA2, hnA, hB2⟩
    have HA : Hid (LvlsAt w3 w3.heap.size aoA ls) := hLA
    have HAn : Hid (aoA = none → cA = 0) := hnA
    have HBw3 : Hid (Below w.heap.size w w3) := HBw1.out.trans (hB2.mono hzw1)
    have hzw3 : w.heap.size ≤ w3.heap.size := HBw3.out.size
    clear hLA hnA hB2 HBw1 hzw1 H1 hc1
    -- sa := fnBuild(a)
    go_wp2_with fail
    refine (build_any ls aoA cA w3.heap.size w3 HA.out (Nat.le_refl _) hn1).mono ?_
    rintro e w4 ⟨q4, rfl, hC4, hB4⟩
    have HC4 : Hid (Chain w4 w4.heap.size (.pointer q4) ls) := hC4
    have HB4 : Hid (Below w3.heap.size w3 w4) := hB4
    have hz4 : w3.heap.size ≤ w4.heap.size := hB4.size
    clear hC4 hB4
    -- sb := fnBuild(fnCloneLevels(a))
    go_wp2_with fail
    refine (levels_any ls aoA cA w3.heap.size w4 (HA.out.later HB4.out (Nat.le_refl _) (Nat.le_refl _)) hz4 HAn.out hn1 (fun l hl => (HS1.out l hl).1)).mono ?_
    rintro e w5 ⟨ao5, c5, rfl, hL5, _, _, _, hB5⟩
    have HL5 : Hid (LvlsAt w5 w5.heap.size ao5 ls) := hL5
    have HB5 : Hid (Below w4.heap.size w4 w5) := hB5
    have hz5 : w4.heap.size ≤ w5.heap.size := hB5.size
    clear hL5 hB5
    go_wp2_with fail
    refine (build_any ls ao5 c5 w5.heap.size w5 HL5.out (Nat.le_refl _) hn1).mono ?_
    rintro e w6 ⟨q6, rfl, hC6, hB6⟩
    have HC6 : Hid (Chain w6 w6.heap.size (.pointer q6) ls) := hC6
    have hz6 : w5.heap.size ≤ w6.heap.size := hB6.size
    have HB46 : Hid (Below w4.heap.size w4 w6) := HB5.out.trans (hB6.mono hz5)
    have HC46 : Hid (Chain w6 w6.heap.size (.pointer q4) ls) := HC4.out.later HB46.out (Nat.le_refl _) (Nat.le_trans hz5 hz6)
    have HB36 : Hid (Below w3.heap.size w3 w6) := HB4.out.trans (HB46.out.mono hz4)
    have HSL : Hid (∀ l ∈ ls, l.1.length ≤ 1073741824) := fun l hl => by have := (HS1.out l hl).1; omega
    clear hC6 hB6 HC4 HB4 HL5 HB5
    -- the three comparisons of what was built alike
    go_wp2_with fail
    refine (same_any ls ls q4 q6 w6.heap.size w6 HC46.out HC6.out HSL.out).mono ?_
    rintro e w7 ⟨rfl, nq7, rfl⟩
    rw [decide_eq_true rfl]
    have HB67 : Hid (Below w6.heap.size w6 (w6.drewN nq7)) := below_drewN (Below.refl _ _) nq7
    generalize w6.drewN nq7 = w7 at *
    go_wp2_with fail
    refine (same_any ls ls q6 q4 w6.heap.size w7 (HC6.out.later HB67.out (Nat.le_refl _) (Nat.le_refl _)) (HC46.out.later HB67.out (Nat.le_refl _) (Nat.le_refl _)) HSL.out).mono ?_
    rintro e w8 ⟨rfl, nq8, rfl⟩
    rw [decide_eq_true rfl]
    have HB68 : Hid (Below w6.heap.size w6 (w7.drewN nq8)) := below_drewN HB67.out nq8
    generalize w7.drewN nq8 = w8 at *
    go_wp2_with fail
    refine (same_any ls ls q4 q4 w6.heap.size w8 (HC46.out.later HB68.out (Nat.le_refl _) (Nat.le_refl _)) (HC46.out.later HB68.out (Nat.le_refl _) (Nat.le_refl _)) HSL.out).mono ?_
    rintro e w9 ⟨rfl, nq9, rfl⟩
    rw [decide_eq_true rfl]
    have HB69 : Hid (Below w6.heap.size w6 (w8.drewN nq9)) := below_drewN HB68.out nq9
    generalize w8.drewN nq9 = w9 at *
    clear HB67 HB68
    have hz9 : w6.heap.size ≤ w9.heap.size := HB69.out.size
    have hz36 : w3.heap.size ≤ w6.heap.size := HB36.out.size
    have HB39 : Hid (Below w3.heap.size w3 w9) := HB36.out.trans (HB69.out.mono hz36)
    have hz39 : w3.heap.size ≤ w9.heap.size := HB39.out.size
    have HC9 : Hid (Chain w9 w9.heap.size (.pointer q4) ls) := HC46.out.later HB69.out (Nat.le_refl _) hz9
    -- sc := fnBuild(fnChanged(a, k, which))
    go_wp2_with fail
    refine (chg_any ls aoA cA w3.heap.size k which w9 (HA.out.later HB39.out (Nat.le_refl _) (Nat.le_refl _)) hz39 HAn.out hn1 HS1.out).mono ?_
    rintro e w10 ⟨ms, aoC, cC, rfl, hLC, hB10, hne, hlC, hsC⟩
    have HLC : Hid (LvlsAt w10 w10.heap.size aoC ms) := hLC
    have HB10 : Hid (Below w9.heap.size w9 w10) := hB10
    have hz10 : w9.heap.size ≤ w10.heap.size := hB10.size
    have HNE : Hid (ms ≠ ls) := hne
    have HSC : Hid (∀ l ∈ ms, l.1.length ≤ 1073741824) := fun l hl => by have := hsC l hl; omega
    clear hLC hB10 hne hsC
    go_wp2_with fail
    refine (build_big ms aoC cC w10.heap.size w10 HLC.out (Nat.le_refl _) (by omega)).mono ?_
    rintro e w11 ⟨q11, rfl, hC11, hB11⟩
    have HC11 : Hid (Chain w11 w11.heap.size (.pointer q11) ms) := hC11
    have hz11 : w10.heap.size ≤ w11.heap.size := hB11.size
    have HB911 : Hid (Below w9.heap.size w9 w11) := HB10.out.trans (hB11.mono hz10)
    have HC911 : Hid (Chain w11 w11.heap.size (.pointer q4) ls) := HC9.out.later HB911.out (Nat.le_refl _) (Nat.le_trans hz10 hz11)
    have HB311 : Hid (Below w3.heap.size w3 w11) := HB39.out.trans (HB911.out.mono hz39)
    clear hC11 hB11
    go_wp2_with fail
    refine (same_any ls ms q4 q11 w11.heap.size w11 HC911.out HC11.out HSL.out).mono ?_
    rintro e w12 ⟨rfl, nq12, rfl⟩
    rw [decide_eq_false (fun h => HNE.out h.symm)]
    have HB1112 : Hid (Below w11.heap.size w11 (w11.drewN nq12)) := below_drewN (Below.refl _ _) nq12
    generalize w11.drewN nq12 = w12 at *
    go_wp2_with fail
    refine (same_any ms ls q11 q4 w11.heap.size w12 (HC11.out.later HB1112.out (Nat.le_refl _) (Nat.le_refl _)) (HC911.out.later HB1112.out (Nat.le_refl _) (Nat.le_refl _)) HSC.out).mono ?_
    rintro e w13 ⟨rfl, nq13, rfl⟩
    rw [decide_eq_false HNE.out]
    have hz311 : w3.heap.size ≤ w11.heap.size := HB311.out.size
    have HFIN : Hid (Below w.heap.size w (w12.drewN nq13)) := below_drewN (HBw3.out.trans ((HB311.out.trans (HB1112.out.mono hz311)).mono hzw3)) nq13
    go_wp2_with fail
    go_ret
    exact ⟨rfl, HFIN.out⟩
end Go.Proofs.Qxb6628598a

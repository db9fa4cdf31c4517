import Derived.Test.Qxb6628598aSizes
import Derived.Test.Qxb6628598aSame
import Derived.Deep.RegionHeld3
import Derived.Deep.DrawnRows
namespace Go.Proofs.Qxb6628598a
open Go.ChangeShapes Go.WideShapes Go.ChangeAt Go.RowKit
attribute [local go_sem ↓] Go.wp_at_zero Go.wp_at_succ

theorem size22 (w : World) : (sizeOf (Try.prog.elem 22)).run Try.prog w = .ok 6 w := by kernel_rfl
theorem under22 : Try.prog.underlying 22 = some (.slice (Try.prog.elem 22)) := by kernel_rfl

theorem add_zero' (a : Addr) : a.add 0 = a := by simp [Addr.add]

theorem cut_h (ls : List Lvl) (ao : Option Addr) (c B k : Nat) (w : World) (h : LvlsAt w B ao ls) (hk : k ≤ ls.length) (hc : ls.length ≤ c) :
    (∀ wx : World, (Instr.slice 22 (.slice ao ls.length c) none (some (.int .i64 (k : Int))) none).run Try.prog wx = .ok (.slice ao (ls.take k).length c) wx) ∧ LvlsAt w B ao (ls.take k) := by
  constructor
  · intro wx
    rw [run_slice_h (P := Try.prog) wx 22 ao ls.length c under22 .i64 k (by omega) (by omega), size22]
    simp only [Result.andThen, sliced, Int.toNat_natCast, Nat.zero_mul, Nat.sub_zero]
    have e : (if c = 0 then ao else ao.map (fun x => x.add 0)) = ao := by
      split
      · rfl
      · cases ao <;> simp [add_zero']
    rw [e, List.length_take, Nat.min_eq_left hk]
  · rcases h with rfl | ⟨g, off, ha, hg, hl⟩
    · left; simp
    · refine .inr ⟨g, off, ha, hg, fun j l hj => hl j l ?_⟩
      rw [List.getElem?_take] at hj
      split at hj
      · exact hj
      · cases hj

theorem cut_l (ls : List Lvl) (ao : Option Addr) (c B k : Nat) (w : World) (h : LvlsAt w B ao ls) (hk : k ≤ ls.length) (hc : ls.length ≤ c) :
    ∃ ao' c', (∀ wx : World, (Instr.slice 22 (.slice ao ls.length c) (some (.int .i64 (k : Int))) none none).run Try.prog wx = .ok (.slice ao' (ls.drop k).length c') wx) ∧ LvlsAt w B ao' (ls.drop k) := by
  refine ⟨if c = k then ao else ao.map (fun x => x.add (k * 6)), c - k, ?_, ?_⟩
  · intro wx
    rw [run_slice_l (P := Try.prog) wx 22 ao ls.length c under22 .i64 k (by omega) (by omega), size22]
    simp only [Result.andThen, sliced, Int.toNat_natCast, List.length_drop]
  · rcases h with rfl | ⟨g, off, rfl, hg, hl⟩
    · left; simp
    · by_cases hck : c = k
      · left; exact List.drop_of_length_le (by omega)
      · rw [if_neg hck]
        refine .inr ⟨g, off + k * 6, by simp [Addr.add_lit], hg, fun j l hj => ?_⟩
        rw [List.getElem?_drop] at hj
        have := hl (k + j) l hj
        rw [show off + k * 6 + j * 6 = off + (k + j) * 6 from by omega]
        exact this

/-- the plain law -/
theorem cut_iff (ls ms : List Lvl) (k : Nat) : decide (ls = ms) = (decide (ls.take k = ms.take k) && decide (ls.drop k = ms.drop k)) := by
  rw [Bool.eq_iff_iff]
  simp only [Bool.and_eq_true, decide_eq_true_eq]
  constructor
  · rintro rfl; exact ⟨rfl, rfl⟩
  · rintro ⟨h3, h4⟩
    rw [← List.take_append_drop k ls, h3, h4, List.take_append_drop]
theorem sym_iff (ls ms : List Lvl) : decide (ls = ms) = decide (ms = ls) := by
  rw [Bool.eq_iff_iff]; simp only [decide_eq_true_eq]; exact ⟨Eq.symm, Eq.symm⟩

set_option maxRecDepth 100000 in
set_option maxHeartbeats 8000000 in
theorem law4_a (ls ms : List Lvl) (ao1 ao2 : Option Addr) (c1 c2 : Nat) (k : Int) (w : World) (h1 : LvlsAt w w.heap.size ao1 ls) (h2 : LvlsAt w w.heap.size ao2 ms) (hc1 : ao1 = none → c1 = 0) (hc2 : ao2 = none → c2 = 0) :
    Calls Try.prog 4 #[.slice ao1 ls.length c1, .slice ao2 ms.length c2, .int .i64 k] w fun e w' => e = .returned (.bool true) ∧ Below w.heap.size w w' := by
  have H1 : Hid (LvlsAt w w.heap.size ao1 ls) := h1
  have H2 : Hid (LvlsAt w w.heap.size ao2 ms) := h2
  clear h1 h2
  go_enter Try.func4, Try.ntmps4
  go_wp2_with fail
  refine (zz11_any ls ms ao1 ao2 c1 c2 w.heap.size k w H1.out H2.out).mono ?_
  rintro e w' ⟨b, rfl, rfl⟩
  cases b
  · go_wp2_with fail
    go_ret
    exact ⟨rfl, Below.refl _ _⟩
  go_wp2_with fail
  refine (big_any ls ms ao1 ao2 c1 c2 w.heap.size w H1.out H2.out).mono ?_
  rintro e w1 ⟨b, rfl, ⟨n1, rfl⟩, hb⟩
  have HBw1 : Hid (Below w.heap.size w (w.drewN n1)) := below_drewN (Below.refl _ _) n1
  have hzw1 : w.heap.size ≤ (w.drewN n1).heap.size := Nat.le_refl _
  generalize w.drewN n1 = w1 at *
  cases b
  case true =>
    clear hb
    go_wp2_with fail
    go_ret
    exact ⟨rfl, HBw1.out⟩
  case false =>
    obtain ⟨hn1, hn2, hs1, hs2⟩ := hb rfl
    have HS1 : Hid (∀ l ∈ ls, Small l) := hs1
    have HS2 : Hid (∀ l ∈ ms, Small l) := hs2
    clear hb hs1 hs2
    go_wp2_with fail
    refine (levels_any ls ao1 c1 w.heap.size w1 (H1.out.later HBw1.out (Nat.le_refl _) (Nat.le_refl _)) hzw1 hc1 hn1 (fun l hl => (HS1.out l hl).1)).mono ?_
    rintro e w2 ⟨aoA, cA, rfl, hLA, hcA, hcA2, hnA, hB2⟩
    have HA2 : Hid (LvlsAt w2 w2.heap.size aoA ls) := hLA
    have HAn : Hid (aoA = none → cA = 0) := hnA
    have HBw2 : Hid (Below w.heap.size w w2) := HBw1.out.trans (hB2.mono hzw1)
    have hzw2 : w.heap.size ≤ w2.heap.size := HBw2.out.size
    clear hLA hnA hB2
    go_wp2_with fail
    refine (levels_any ms ao2 c2 w.heap.size w2 (H2.out.later HBw2.out (Nat.le_refl _) (Nat.le_refl _)) hzw2 hc2 hn2 (fun l hl => (HS2.out l hl).1)).mono ?_
    rintro e w3 ⟨aoB, cB, rfl, hLB, hcB, hcB2, hnB, hB3⟩
    have HB : Hid (LvlsAt w3 w3.heap.size aoB ms) := hLB
    have HBn : Hid (aoB = none → cB = 0) := hnB
    have HA : Hid (LvlsAt w3 w3.heap.size aoA ls) := HA2.out.later hB3 (Nat.le_refl _) hB3.size
    have HBw3 : Hid (Below w.heap.size w w3) := HBw2.out.trans (hB3.mono hzw2)
    have hzw3 : w.heap.size ≤ w3.heap.size := HBw3.out.size
    clear hLB hnB hB3 HA2 HBw2 hzw2 HBw1 hzw1 H1 H2 hc1 hc2
    by_cases hm : (ms.length : Int) < ls.length
    · by_cases hk0 : k < 0
      · obtain ⟨kk, hkk⟩ : ∃ kk : Nat, kk = 0 := ⟨0, rfl⟩
        have hkk1 : kk ≤ ls.length := by omega
        have hkk2 : kk ≤ ms.length := by omega
        have HSt : Hid (∀ l ∈ ls.take kk, l.1.length ≤ 1073741824) := fun l hl => by have := (HS1.out l (List.mem_of_mem_take hl)).1; omega
        have HSd : Hid (∀ l ∈ ls.drop kk, l.1.length ≤ 1073741824) := fun l hl => by have := (HS1.out l (List.mem_of_mem_drop hl)).1; omega
        go_wp2_with fail
        rw [show (Value.int .i64 0) = Value.int .i64 ((kk : Nat) : Int) from by rw [hkk]; rfl]
        clear hkk
        have hcA1 := cut_h ls aoA cA w3.heap.size kk w3 HA.out hkk1 hcA
        have hcB1 := cut_h ms aoB cB w3.heap.size kk w3 HB.out hkk2 hcB
        obtain ⟨aoA2, cA2, hsA2, hLA2⟩ := cut_l ls aoA cA w3.heap.size kk w3 HA.out hkk1 hcA
        obtain ⟨aoB2, cB2, hsB2, hLB2⟩ := cut_l ms aoB cB w3.heap.size kk w3 HB.out hkk2 hcB
        obtain ⟨hsA1, hLA1⟩ := hcA1
        obtain ⟨hsB1, hLB1⟩ := hcB1
        have HLA1 : Hid (LvlsAt w3 w3.heap.size aoA (ls.take kk)) := hLA1
        have HLB1 : Hid (LvlsAt w3 w3.heap.size aoB (ms.take kk)) := hLB1
        have HLA2 : Hid (LvlsAt w3 w3.heap.size aoA2 (ls.drop kk)) := hLA2
        have HLB2 : Hid (LvlsAt w3 w3.heap.size aoB2 (ms.drop kk)) := hLB2
        have HCUT : Hid (decide (ls = ms) = (decide (ls.take kk = ms.take kk) && decide (ls.drop kk = ms.drop kk))) := cut_iff ls ms kk
        have hLt1 : (ls.take kk).length ≤ 65536 := by rw [List.length_take]; omega
        have hLt2 : (ms.take kk).length ≤ 65536 := by rw [List.length_take]; omega
        have hLd1 : (ls.drop kk).length ≤ 65536 := by rw [List.length_drop]; omega
        have hLd2 : (ms.drop kk).length ≤ 65536 := by rw [List.length_drop]; omega
        clear hLA1 hLB1 hLA2 hLB2
        generalize hT1 : ls.take kk = lt at *
        generalize hT2 : ms.take kk = mt at *
        generalize hT3 : ls.drop kk = ld at *
        generalize hT4 : ms.drop kk = md at *
        have HT1 : Hid (ls.take kk = lt) := hT1
        have HT3 : Hid (ls.drop kk = ld) := hT3
        clear hT1 hT2 hT3 hT4
        -- !fnBuild(a).SameAs(fnBuild(fnCloneLevels(a)))
        refine (build_any ls aoA cA w3.heap.size w3 HA.out (Nat.le_refl _) hn1).mono ?_
        rintro e w4 ⟨q4, rfl, hC4, hB4⟩
        have HC4 : Hid (Chain w4 w4.heap.size (.pointer q4) ls) := hC4
        have HB4 : Hid (Below w3.heap.size w3 w4) := hB4
        have hz4 : w3.heap.size ≤ w4.heap.size := hB4.size
        clear hC4 hB4
        go_wp2_with fail
        refine (levels_any ls aoA cA w3.heap.size w4 (HA.out.later HB4.out (Nat.le_refl _) (Nat.le_refl _)) hz4 HAn.out hn1 (fun l hl => (HS1.out l hl).1)).mono ?_
        rintro e w5 ⟨ao5, c5, rfl, hL5, _, _, _, hB5⟩
        have HL5 : Hid (LvlsAt w5 w5.heap.size ao5 ls) := hL5
        have HB5 : Hid (Below w4.heap.size w4 w5) := hB5
        have hz5 : w4.heap.size ≤ w5.heap.size := hB5.size
        clear hL5 hB5
        go_wp2_with fail
        refine (build_any ls ao5 c5 w5.heap.size w5 HL5.out (Nat.le_refl _) hn1).mono ?_
        rintro e w6 ⟨q6, rfl, hC6, hB6⟩
        have HC6 : Hid (Chain w6 w6.heap.size (.pointer q6) ls) := hC6
        have hz6 : w5.heap.size ≤ w6.heap.size := hB6.size
        have HB46 : Hid (Below w4.heap.size w4 w6) := HB5.out.trans (hB6.mono hz5)
        have HC46 : Hid (Chain w6 w6.heap.size (.pointer q4) ls) := HC4.out.later HB46.out (Nat.le_refl _) (Nat.le_trans hz5 hz6)
        have HB36 : Hid (Below w3.heap.size w3 w6) := HB4.out.trans (HB46.out.mono hz4)
        clear hC6 hB6
        go_wp2_with fail
        refine (same_any ls ls q4 q6 w6.heap.size w6 HC46.out HC6.out (fun l hl => by have := (HS1.out l hl).1; omega)).mono ?_
        rintro e w7 ⟨rfl, nq7, rfl⟩
        rw [decide_eq_true rfl]
        have HB37 : Hid (Below w3.heap.size w3 (w6.drewN nq7)) := below_drewN HB36.out nq7
        generalize w6.drewN nq7 = w7 at *
        clear HC4 HB4 hz4 HL5 HB5 hz5 HC6 hz6 HB46 HC46 HB36
        have hz7 : w3.heap.size ≤ w7.heap.size := HB37.out.size
        -- whole
        go_wp2_with fail
        refine (build_any ls aoA cA w3.heap.size w7 (HA.out.later HB37.out (Nat.le_refl _) (Nat.le_refl _)) hz7 hn1).mono ?_
        rintro e w8 ⟨q8, rfl, hC8, hB8⟩
        have HC8 : Hid (Chain w8 w8.heap.size (.pointer q8) ls) := hC8
        have HB38 : Hid (Below w3.heap.size w3 w8) := HB37.out.trans (hB8.mono hz7)
        have hz8 : w3.heap.size ≤ w8.heap.size := HB38.out.size
        clear hC8 hB8
        go_wp2_with fail
        refine (build_any ms aoB cB w3.heap.size w8 (HB.out.later HB38.out (Nat.le_refl _) (Nat.le_refl _)) hz8 hn2).mono ?_
        rintro e w9 ⟨q9, rfl, hC9, hB9⟩
        have HC9 : Hid (Chain w9 w9.heap.size (.pointer q9) ms) := hC9
        have HC89 : Hid (Chain w9 w9.heap.size (.pointer q8) ls) := HC8.out.later hB9 (Nat.le_refl _) hB9.size
        have HB39 : Hid (Below w3.heap.size w3 w9) := HB38.out.trans (hB9.mono hz8)
        clear hC9 hB9
        go_wp2_with fail
        refine (same_any ls ms q8 q9 w9.heap.size w9 HC89.out HC9.out (fun l hl => by have := (HS1.out l hl).1; omega)).mono ?_
        rintro e w10 ⟨rfl, nq10, rfl⟩
        have HB310 : Hid (Below w3.heap.size w3 (w9.drewN nq10)) := below_drewN HB39.out nq10
        generalize w9.drewN nq10 = w10 at *
        generalize hW : decide (ls = ms) = whole at *
        have HW : Hid (decide (ls = ms) = whole) := hW
        clear HC8 HB38 hz8 HC9 HC89 HB39 hW HB37 hz7
        have hz10 : w3.heap.size ≤ w10.heap.size := HB310.out.size
        -- back
        go_wp2_with fail
        refine (build_any ms aoB cB w3.heap.size w10 (HB.out.later HB310.out (Nat.le_refl _) (Nat.le_refl _)) hz10 hn2).mono ?_
        rintro e w11 ⟨q11, rfl, hC11, hB11⟩
        have HC11 : Hid (Chain w11 w11.heap.size (.pointer q11) ms) := hC11
        have HB311 : Hid (Below w3.heap.size w3 w11) := HB310.out.trans (hB11.mono hz10)
        have hz11 : w3.heap.size ≤ w11.heap.size := HB311.out.size
        clear hC11 hB11
        go_wp2_with fail
        refine (build_any ls aoA cA w3.heap.size w11 (HA.out.later HB311.out (Nat.le_refl _) (Nat.le_refl _)) hz11 hn1).mono ?_
        rintro e w12 ⟨q12, rfl, hC12, hB12⟩
        have HC12 : Hid (Chain w12 w12.heap.size (.pointer q12) ls) := hC12
        have HC112 : Hid (Chain w12 w12.heap.size (.pointer q11) ms) := HC11.out.later hB12 (Nat.le_refl _) hB12.size
        have HB312 : Hid (Below w3.heap.size w3 w12) := HB311.out.trans (hB12.mono hz11)
        clear hC12 hB12
        go_wp2_with fail
        refine (same_any ms ls q11 q12 w12.heap.size w12 HC112.out HC12.out (fun l hl => by have := (HS2.out l hl).1; omega)).mono ?_
        rintro e w13 ⟨rfl, nq13, rfl⟩
        rw [← sym_iff ls ms, HW.out]
        have HB313 : Hid (Below w3.heap.size w3 (w12.drewN nq13)) := below_drewN HB312.out nq13
        generalize w12.drewN nq13 = w13 at *
        clear HC11 HB311 hz11 HC12 HC112 HB312 HB310 hz10
        have hz13 : w3.heap.size ≤ w13.heap.size := HB313.out.size
        -- pre
        go_wp2_with fail
        go_region_held3 (fun _ => True) (trivial)
          (first
            | (go_at_call_of 8 aoA; refine (build_any lt aoA cA w3.heap.size _ (HLA1.out.later HB313.out.drew (Nat.le_refl _) (Nat.le_refl _)) hz13 hLt1).mono ?_; rintro e w14 ⟨q14, rfl, hC14, hB14⟩; have HC14 : Hid (Chain w14 w14.heap.size (.pointer q14) lt) := hC14; have HB314 : Hid (Below w3.heap.size w3 w14) := HB313.out.drew.trans (hB14.mono hz13); clear hC14 hB14)
            | (go_at_call_of 8 aoB; refine (build_any mt aoB cB w3.heap.size _ (HLB1.out.later HB314.out (Nat.le_refl _) (Nat.le_refl _)) HB314.out.size hLt2).mono ?_; rintro e w15 ⟨q15, rfl, hC15, hB15⟩; have HC15 : Hid (Chain w15 w15.heap.size (.pointer q15) mt) := hC15; have HC1415 : Hid (Chain w15 w15.heap.size (.pointer q14) lt) := HC14.out.later hB15 (Nat.le_refl _) hB15.size; have HB315 : Hid (Below w3.heap.size w3 w15) := HB314.out.trans (hB15.mono HB314.out.size); clear hC15 hB15)
            | (go_at_call 9; refine (same_any lt mt q14 q15 w15.heap.size _ HC1415.out HC15.out HSt.out).mono ?_; rintro e w16 ⟨rfl, nq16, rfl⟩))
        have HB316 : Hid (Below w3.heap.size w3 (w15.drewN nq16)) := below_drewN HB315.out nq16
        have hz16 : w3.heap.size ≤ (w15.drewN nq16).heap.size := HB316.out.size
        clear HC14 HB314 HC15 HC1415 HB315 HB313 hz13
        go_wp2_with fail
        generalize w15.drewN nq16 = w16 at *
        -- suf
        go_region_held3 (fun _ => True) (trivial)
          (first
            | (go_at_call_of 8 aoA2; refine (build_any ld aoA2 cA2 w3.heap.size _ (HLA2.out.later HB316.out.drew (Nat.le_refl _) (Nat.le_refl _)) hz16 hLd1).mono ?_; rintro e w17 ⟨q17, rfl, hC17, hB17⟩; have HC17 : Hid (Chain w17 w17.heap.size (.pointer q17) ld) := hC17; have HB317 : Hid (Below w3.heap.size w3 w17) := HB316.out.drew.trans (hB17.mono hz16); clear hC17 hB17)
            | (go_at_call_of 8 aoB2; refine (build_any md aoB2 cB2 w3.heap.size _ (HLB2.out.later HB317.out (Nat.le_refl _) (Nat.le_refl _)) HB317.out.size hLd2).mono ?_; rintro e w18 ⟨q18, rfl, hC18, hB18⟩; have HC18 : Hid (Chain w18 w18.heap.size (.pointer q18) md) := hC18; have HC1718 : Hid (Chain w18 w18.heap.size (.pointer q17) ld) := HC17.out.later hB18 (Nat.le_refl _) hB18.size; have HB318 : Hid (Below w3.heap.size w3 w18) := HB317.out.trans (hB18.mono HB317.out.size); clear hC18 hB18)
            | (go_at_call 9; refine (same_any ld md q17 q18 w18.heap.size _ HC1718.out HC18.out HSd.out).mono ?_; rintro e w19 ⟨rfl, nq19, rfl⟩))
        have HFIN : Hid (Below w.heap.size w (w18.drewN nq19)) := below_drewN (HBw3.out.trans (HB318.out.mono hzw3)) nq19
        clear HC17 HB317 HC18 HC1718 HB318 HB316 hz16
        generalize decide (lt = mt) = pre at *
        generalize decide (ld = md) = suf at *
        have hwh := HCUT.out
        clear HCUT HW
        subst hwh
        cases pre <;> cases suf
        all_goals
          go_wp2_with fail
          go_ret
          exact ⟨rfl, HFIN.out⟩
      · obtain ⟨k0, rfl⟩ := Int.eq_ofNat_of_zero_le (show 0 ≤ k by omega)
        by_cases hkm : k0 ≤ ms.length
        · obtain ⟨kk, rfl⟩ : ∃ kk, kk = k0 := ⟨_, rfl⟩
          have hkm' : ¬ (ms.length : Int) < kk := by omega
          have hkk1 : kk ≤ ls.length := by omega
          have hkk2 : kk ≤ ms.length := by omega
          have HSt : Hid (∀ l ∈ ls.take kk, l.1.length ≤ 1073741824) := fun l hl => by have := (HS1.out l (List.mem_of_mem_take hl)).1; omega
          have HSd : Hid (∀ l ∈ ls.drop kk, l.1.length ≤ 1073741824) := fun l hl => by have := (HS1.out l (List.mem_of_mem_drop hl)).1; omega
          go_wp2_with fail
          have hcA1 := cut_h ls aoA cA w3.heap.size kk w3 HA.out hkk1 hcA
          have hcB1 := cut_h ms aoB cB w3.heap.size kk w3 HB.out hkk2 hcB
          obtain ⟨aoA2, cA2, hsA2, hLA2⟩ := cut_l ls aoA cA w3.heap.size kk w3 HA.out hkk1 hcA
          obtain ⟨aoB2, cB2, hsB2, hLB2⟩ := cut_l ms aoB cB w3.heap.size kk w3 HB.out hkk2 hcB
          obtain ⟨hsA1, hLA1⟩ := hcA1
          obtain ⟨hsB1, hLB1⟩ := hcB1
          have HLA1 : Hid (LvlsAt w3 w3.heap.size aoA (ls.take kk)) := hLA1
          have HLB1 : Hid (LvlsAt w3 w3.heap.size aoB (ms.take kk)) := hLB1
          have HLA2 : Hid (LvlsAt w3 w3.heap.size aoA2 (ls.drop kk)) := hLA2
          have HLB2 : Hid (LvlsAt w3 w3.heap.size aoB2 (ms.drop kk)) := hLB2
          have HCUT : Hid (decide (ls = ms) = (decide (ls.take kk = ms.take kk) && decide (ls.drop kk = ms.drop kk))) := cut_iff ls ms kk
          have hLt1 : (ls.take kk).length ≤ 65536 := by rw [List.length_take]; omega
          have hLt2 : (ms.take kk).length ≤ 65536 := by rw [List.length_take]; omega
          have hLd1 : (ls.drop kk).length ≤ 65536 := by rw [List.length_drop]; omega
          have hLd2 : (ms.drop kk).length ≤ 65536 := by rw [List.length_drop]; omega
          clear hLA1 hLB1 hLA2 hLB2
          generalize hT1 : ls.take kk = lt at *
          generalize hT2 : ms.take kk = mt at *
          generalize hT3 : ls.drop kk = ld at *
          generalize hT4 : ms.drop kk = md at *
          have HT1 : Hid (ls.take kk = lt) := hT1
          have HT3 : Hid (ls.drop kk = ld) := hT3
          clear hT1 hT2 hT3 hT4
          -- !fnBuild(a).SameAs(fnBuild(fnCloneLevels(a)))
          refine (build_any ls aoA cA w3.heap.size w3 HA.out (Nat.le_refl _) hn1).mono ?_
          rintro e w4 ⟨q4, rfl, hC4, hB4⟩
          have HC4 : Hid (Chain w4 w4.heap.size (.pointer q4) ls) := hC4
          have HB4 : Hid (Below w3.heap.size w3 w4) := hB4
          have hz4 : w3.heap.size ≤ w4.heap.size := hB4.size
          clear hC4 hB4
          go_wp2_with fail
          refine (levels_any ls aoA cA w3.heap.size w4 (HA.out.later HB4.out (Nat.le_refl _) (Nat.le_refl _)) hz4 HAn.out hn1 (fun l hl => (HS1.out l hl).1)).mono ?_
          rintro e w5 ⟨ao5, c5, rfl, hL5, _, _, _, hB5⟩
          have HL5 : Hid (LvlsAt w5 w5.heap.size ao5 ls) := hL5
          have HB5 : Hid (Below w4.heap.size w4 w5) := hB5
          have hz5 : w4.heap.size ≤ w5.heap.size := hB5.size
          clear hL5 hB5
          go_wp2_with fail
          refine (build_any ls ao5 c5 w5.heap.size w5 HL5.out (Nat.le_refl _) hn1).mono ?_
          rintro e w6 ⟨q6, rfl, hC6, hB6⟩
          have HC6 : Hid (Chain w6 w6.heap.size (.pointer q6) ls) := hC6
          have hz6 : w5.heap.size ≤ w6.heap.size := hB6.size
          have HB46 : Hid (Below w4.heap.size w4 w6) := HB5.out.trans (hB6.mono hz5)
          have HC46 : Hid (Chain w6 w6.heap.size (.pointer q4) ls) := HC4.out.later HB46.out (Nat.le_refl _) (Nat.le_trans hz5 hz6)
          have HB36 : Hid (Below w3.heap.size w3 w6) := HB4.out.trans (HB46.out.mono hz4)
          clear hC6 hB6
          go_wp2_with fail
          refine (same_any ls ls q4 q6 w6.heap.size w6 HC46.out HC6.out (fun l hl => by have := (HS1.out l hl).1; omega)).mono ?_
          rintro e w7 ⟨rfl, nq7, rfl⟩
          rw [decide_eq_true rfl]
          have HB37 : Hid (Below w3.heap.size w3 (w6.drewN nq7)) := below_drewN HB36.out nq7
          generalize w6.drewN nq7 = w7 at *
          clear HC4 HB4 hz4 HL5 HB5 hz5 HC6 hz6 HB46 HC46 HB36
          have hz7 : w3.heap.size ≤ w7.heap.size := HB37.out.size
          -- whole
          go_wp2_with fail
          refine (build_any ls aoA cA w3.heap.size w7 (HA.out.later HB37.out (Nat.le_refl _) (Nat.le_refl _)) hz7 hn1).mono ?_
          rintro e w8 ⟨q8, rfl, hC8, hB8⟩
          have HC8 : Hid (Chain w8 w8.heap.size (.pointer q8) ls) := hC8
          have HB38 : Hid (Below w3.heap.size w3 w8) := HB37.out.trans (hB8.mono hz7)
          have hz8 : w3.heap.size ≤ w8.heap.size := HB38.out.size
          clear hC8 hB8
          go_wp2_with fail
          refine (build_any ms aoB cB w3.heap.size w8 (HB.out.later HB38.out (Nat.le_refl _) (Nat.le_refl _)) hz8 hn2).mono ?_
          rintro e w9 ⟨q9, rfl, hC9, hB9⟩
          have HC9 : Hid (Chain w9 w9.heap.size (.pointer q9) ms) := hC9
          have HC89 : Hid (Chain w9 w9.heap.size (.pointer q8) ls) := HC8.out.later hB9 (Nat.le_refl _) hB9.size
          have HB39 : Hid (Below w3.heap.size w3 w9) := HB38.out.trans (hB9.mono hz8)
          clear hC9 hB9
          go_wp2_with fail
          refine (same_any ls ms q8 q9 w9.heap.size w9 HC89.out HC9.out (fun l hl => by have := (HS1.out l hl).1; omega)).mono ?_
          rintro e w10 ⟨rfl, nq10, rfl⟩
          have HB310 : Hid (Below w3.heap.size w3 (w9.drewN nq10)) := below_drewN HB39.out nq10
          generalize w9.drewN nq10 = w10 at *
          generalize hW : decide (ls = ms) = whole at *
          have HW : Hid (decide (ls = ms) = whole) := hW
          clear HC8 HB38 hz8 HC9 HC89 HB39 hW HB37 hz7
          have hz10 : w3.heap.size ≤ w10.heap.size := HB310.out.size
          -- back
          go_wp2_with fail
          refine (build_any ms aoB cB w3.heap.size w10 (HB.out.later HB310.out (Nat.le_refl _) (Nat.le_refl _)) hz10 hn2).mono ?_
          rintro e w11 ⟨q11, rfl, hC11, hB11⟩
          have HC11 : Hid (Chain w11 w11.heap.size (.pointer q11) ms) := hC11
          have HB311 : Hid (Below w3.heap.size w3 w11) := HB310.out.trans (hB11.mono hz10)
          have hz11 : w3.heap.size ≤ w11.heap.size := HB311.out.size
          clear hC11 hB11
          go_wp2_with fail
          refine (build_any ls aoA cA w3.heap.size w11 (HA.out.later HB311.out (Nat.le_refl _) (Nat.le_refl _)) hz11 hn1).mono ?_
          rintro e w12 ⟨q12, rfl, hC12, hB12⟩
          have HC12 : Hid (Chain w12 w12.heap.size (.pointer q12) ls) := hC12
          have HC112 : Hid (Chain w12 w12.heap.size (.pointer q11) ms) := HC11.out.later hB12 (Nat.le_refl _) hB12.size
          have HB312 : Hid (Below w3.heap.size w3 w12) := HB311.out.trans (hB12.mono hz11)
          clear hC12 hB12
          go_wp2_with fail
          refine (same_any ms ls q11 q12 w12.heap.size w12 HC112.out HC12.out (fun l hl => by have := (HS2.out l hl).1; omega)).mono ?_
          rintro e w13 ⟨rfl, nq13, rfl⟩
          rw [← sym_iff ls ms, HW.out]
          have HB313 : Hid (Below w3.heap.size w3 (w12.drewN nq13)) := below_drewN HB312.out nq13
          generalize w12.drewN nq13 = w13 at *
          clear HC11 HB311 hz11 HC12 HC112 HB312 HB310 hz10
          have hz13 : w3.heap.size ≤ w13.heap.size := HB313.out.size
          -- pre
          go_wp2_with fail
          go_region_held3 (fun _ => True) (trivial)
            (first
              | (go_at_call_of 8 aoA; refine (build_any lt aoA cA w3.heap.size _ (HLA1.out.later HB313.out.drew (Nat.le_refl _) (Nat.le_refl _)) hz13 hLt1).mono ?_; rintro e w14 ⟨q14, rfl, hC14, hB14⟩; have HC14 : Hid (Chain w14 w14.heap.size (.pointer q14) lt) := hC14; have HB314 : Hid (Below w3.heap.size w3 w14) := HB313.out.drew.trans (hB14.mono hz13); clear hC14 hB14)
              | (go_at_call_of 8 aoB; refine (build_any mt aoB cB w3.heap.size _ (HLB1.out.later HB314.out (Nat.le_refl _) (Nat.le_refl _)) HB314.out.size hLt2).mono ?_; rintro e w15 ⟨q15, rfl, hC15, hB15⟩; have HC15 : Hid (Chain w15 w15.heap.size (.pointer q15) mt) := hC15; have HC1415 : Hid (Chain w15 w15.heap.size (.pointer q14) lt) := HC14.out.later hB15 (Nat.le_refl _) hB15.size; have HB315 : Hid (Below w3.heap.size w3 w15) := HB314.out.trans (hB15.mono HB314.out.size); clear hC15 hB15)
              | (go_at_call 9; refine (same_any lt mt q14 q15 w15.heap.size _ HC1415.out HC15.out HSt.out).mono ?_; rintro e w16 ⟨rfl, nq16, rfl⟩))
          have HB316 : Hid (Below w3.heap.size w3 (w15.drewN nq16)) := below_drewN HB315.out nq16
          have hz16 : w3.heap.size ≤ (w15.drewN nq16).heap.size := HB316.out.size
          clear HC14 HB314 HC15 HC1415 HB315 HB313 hz13
          go_wp2_with fail
          generalize w15.drewN nq16 = w16 at *
          -- suf
          go_region_held3 (fun _ => True) (trivial)
            (first
              | (go_at_call_of 8 aoA2; refine (build_any ld aoA2 cA2 w3.heap.size _ (HLA2.out.later HB316.out.drew (Nat.le_refl _) (Nat.le_refl _)) hz16 hLd1).mono ?_; rintro e w17 ⟨q17, rfl, hC17, hB17⟩; have HC17 : Hid (Chain w17 w17.heap.size (.pointer q17) ld) := hC17; have HB317 : Hid (Below w3.heap.size w3 w17) := HB316.out.drew.trans (hB17.mono hz16); clear hC17 hB17)
              | (go_at_call_of 8 aoB2; refine (build_any md aoB2 cB2 w3.heap.size _ (HLB2.out.later HB317.out (Nat.le_refl _) (Nat.le_refl _)) HB317.out.size hLd2).mono ?_; rintro e w18 ⟨q18, rfl, hC18, hB18⟩; have HC18 : Hid (Chain w18 w18.heap.size (.pointer q18) md) := hC18; have HC1718 : Hid (Chain w18 w18.heap.size (.pointer q17) ld) := HC17.out.later hB18 (Nat.le_refl _) hB18.size; have HB318 : Hid (Below w3.heap.size w3 w18) := HB317.out.trans (hB18.mono HB317.out.size); clear hC18 hB18)
              | (go_at_call 9; refine (same_any ld md q17 q18 w18.heap.size _ HC1718.out HC18.out HSd.out).mono ?_; rintro e w19 ⟨rfl, nq19, rfl⟩))
          have HFIN : Hid (Below w.heap.size w (w18.drewN nq19)) := below_drewN (HBw3.out.trans (HB318.out.mono hzw3)) nq19
          clear HC17 HB317 HC18 HC1718 HB318 HB316 hz16
          generalize decide (lt = mt) = pre at *
          generalize decide (ld = md) = suf at *
          have hwh := HCUT.out
          clear HCUT HW
          subst hwh
          cases pre <;> cases suf
          all_goals
            go_wp2_with fail
            go_ret
            exact ⟨rfl, HFIN.out⟩
        · have hkm' : (ms.length : Int) < k0 := by omega
          have hkk1 : ms.length ≤ ls.length := by omega
          have hkk2 : ms.length ≤ ms.length := by omega
          have HSt : Hid (∀ l ∈ ls.take ms.length, l.1.length ≤ 1073741824) := fun l hl => by have := (HS1.out l (List.mem_of_mem_take hl)).1; omega
          have HSd : Hid (∀ l ∈ ls.drop ms.length, l.1.length ≤ 1073741824) := fun l hl => by have := (HS1.out l (List.mem_of_mem_drop hl)).1; omega
          go_wp2_with fail
          have hcA1 := cut_h ls aoA cA w3.heap.size ms.length w3 HA.out hkk1 hcA
          have hcB1 := cut_h ms aoB cB w3.heap.size ms.length w3 HB.out hkk2 hcB
          obtain ⟨aoA2, cA2, hsA2, hLA2⟩ := cut_l ls aoA cA w3.heap.size ms.length w3 HA.out hkk1 hcA
          obtain ⟨aoB2, cB2, hsB2, hLB2⟩ := cut_l ms aoB cB w3.heap.size ms.length w3 HB.out hkk2 hcB
          obtain ⟨hsA1, hLA1⟩ := hcA1
          obtain ⟨hsB1, hLB1⟩ := hcB1
          have HLA1 : Hid (LvlsAt w3 w3.heap.size aoA (ls.take ms.length)) := hLA1
          have HLB1 : Hid (LvlsAt w3 w3.heap.size aoB (ms.take ms.length)) := hLB1
          have HLA2 : Hid (LvlsAt w3 w3.heap.size aoA2 (ls.drop ms.length)) := hLA2
          have HLB2 : Hid (LvlsAt w3 w3.heap.size aoB2 (ms.drop ms.length)) := hLB2
          have HCUT : Hid (decide (ls = ms) = (decide (ls.take ms.length = ms.take ms.length) && decide (ls.drop ms.length = ms.drop ms.length))) := cut_iff ls ms ms.length
          have hLt1 : (ls.take ms.length).length ≤ 65536 := by rw [List.length_take]; omega
          have hLt2 : (ms.take ms.length).length ≤ 65536 := by rw [List.length_take]; omega
          have hLd1 : (ls.drop ms.length).length ≤ 65536 := by rw [List.length_drop]; omega
          have hLd2 : (ms.drop ms.length).length ≤ 65536 := by rw [List.length_drop]; omega
          clear hLA1 hLB1 hLA2 hLB2
          generalize hT1 : ls.take ms.length = lt at *
          generalize hT2 : ms.take ms.length = mt at *
          generalize hT3 : ls.drop ms.length = ld at *
          generalize hT4 : ms.drop ms.length = md at *
          have HT1 : Hid (ls.take ms.length = lt) := hT1
          have HT3 : Hid (ls.drop ms.length = ld) := hT3
          clear hT1 hT2 hT3 hT4
          -- !fnBuild(a).SameAs(fnBuild(fnCloneLevels(a)))
          refine (build_any ls aoA cA w3.heap.size w3 HA.out (Nat.le_refl _) hn1).mono ?_
          rintro e w4 ⟨q4, rfl, hC4, hB4⟩
          have HC4 : Hid (Chain w4 w4.heap.size (.pointer q4) ls) := hC4
          have HB4 : Hid (Below w3.heap.size w3 w4) := hB4
          have hz4 : w3.heap.size ≤ w4.heap.size := hB4.size
          clear hC4 hB4
          go_wp2_with fail
          refine (levels_any ls aoA cA w3.heap.size w4 (HA.out.later HB4.out (Nat.le_refl _) (Nat.le_refl _)) hz4 HAn.out hn1 (fun l hl => (HS1.out l hl).1)).mono ?_
          rintro e w5 ⟨ao5, c5, rfl, hL5, _, _, _, hB5⟩
          have HL5 : Hid (LvlsAt w5 w5.heap.size ao5 ls) := hL5
          have HB5 : Hid (Below w4.heap.size w4 w5) := hB5
          have hz5 : w4.heap.size ≤ w5.heap.size := hB5.size
          clear hL5 hB5
          go_wp2_with fail
          refine (build_any ls ao5 c5 w5.heap.size w5 HL5.out (Nat.le_refl _) hn1).mono ?_
          rintro e w6 ⟨q6, rfl, hC6, hB6⟩
          have HC6 : Hid (Chain w6 w6.heap.size (.pointer q6) ls) := hC6
          have hz6 : w5.heap.size ≤ w6.heap.size := hB6.size
          have HB46 : Hid (Below w4.heap.size w4 w6) := HB5.out.trans (hB6.mono hz5)
          have HC46 : Hid (Chain w6 w6.heap.size (.pointer q4) ls) := HC4.out.later HB46.out (Nat.le_refl _) (Nat.le_trans hz5 hz6)
          have HB36 : Hid (Below w3.heap.size w3 w6) := HB4.out.trans (HB46.out.mono hz4)
          clear hC6 hB6
          go_wp2_with fail
          refine (same_any ls ls q4 q6 w6.heap.size w6 HC46.out HC6.out (fun l hl => by have := (HS1.out l hl).1; omega)).mono ?_
          rintro e w7 ⟨rfl, nq7, rfl⟩
          rw [decide_eq_true rfl]
          have HB37 : Hid (Below w3.heap.size w3 (w6.drewN nq7)) := below_drewN HB36.out nq7
          generalize w6.drewN nq7 = w7 at *
          clear HC4 HB4 hz4 HL5 HB5 hz5 HC6 hz6 HB46 HC46 HB36
          have hz7 : w3.heap.size ≤ w7.heap.size := HB37.out.size
          -- whole
          go_wp2_with fail
          refine (build_any ls aoA cA w3.heap.size w7 (HA.out.later HB37.out (Nat.le_refl _) (Nat.le_refl _)) hz7 hn1).mono ?_
          rintro e w8 ⟨q8, rfl, hC8, hB8⟩
          have HC8 : Hid (Chain w8 w8.heap.size (.pointer q8) ls) := hC8
          have HB38 : Hid (Below w3.heap.size w3 w8) := HB37.out.trans (hB8.mono hz7)
          have hz8 : w3.heap.size ≤ w8.heap.size := HB38.out.size
          clear hC8 hB8
          go_wp2_with fail
          refine (build_any ms aoB cB w3.heap.size w8 (HB.out.later HB38.out (Nat.le_refl _) (Nat.le_refl _)) hz8 hn2).mono ?_
          rintro e w9 ⟨q9, rfl, hC9, hB9⟩
          have HC9 : Hid (Chain w9 w9.heap.size (.pointer q9) ms) := hC9
          have HC89 : Hid (Chain w9 w9.heap.size (.pointer q8) ls) := HC8.out.later hB9 (Nat.le_refl _) hB9.size
          have HB39 : Hid (Below w3.heap.size w3 w9) := HB38.out.trans (hB9.mono hz8)
          clear hC9 hB9
          go_wp2_with fail
          refine (same_any ls ms q8 q9 w9.heap.size w9 HC89.out HC9.out (fun l hl => by have := (HS1.out l hl).1; omega)).mono ?_
          rintro e w10 ⟨rfl, nq10, rfl⟩
          have HB310 : Hid (Below w3.heap.size w3 (w9.drewN nq10)) := below_drewN HB39.out nq10
          generalize w9.drewN nq10 = w10 at *
          generalize hW : decide (ls = ms) = whole at *
          have HW : Hid (decide (ls = ms) = whole) := hW
          clear HC8 HB38 hz8 HC9 HC89 HB39 hW HB37 hz7
          have hz10 : w3.heap.size ≤ w10.heap.size := HB310.out.size
          -- back
          go_wp2_with fail
          refine (build_any ms aoB cB w3.heap.size w10 (HB.out.later HB310.out (Nat.le_refl _) (Nat.le_refl _)) hz10 hn2).mono ?_
          rintro e w11 ⟨q11, rfl, hC11, hB11⟩
          have HC11 : Hid (Chain w11 w11.heap.size (.pointer q11) ms) := hC11
          have HB311 : Hid (Below w3.heap.size w3 w11) := HB310.out.trans (hB11.mono hz10)
          have hz11 : w3.heap.size ≤ w11.heap.size := HB311.out.size
          clear hC11 hB11
          go_wp2_with fail
          refine (build_any ls aoA cA w3.heap.size w11 (HA.out.later HB311.out (Nat.le_refl _) (Nat.le_refl _)) hz11 hn1).mono ?_
          rintro e w12 ⟨q12, rfl, hC12, hB12⟩
          have HC12 : Hid (Chain w12 w12.heap.size (.pointer q12) ls) := hC12
          have HC112 : Hid (Chain w12 w12.heap.size (.pointer q11) ms) := HC11.out.later hB12 (Nat.le_refl _) hB12.size
          have HB312 : Hid (Below w3.heap.size w3 w12) := HB311.out.trans (hB12.mono hz11)
          clear hC12 hB12
          go_wp2_with fail
          refine (same_any ms ls q11 q12 w12.heap.size w12 HC112.out HC12.out (fun l hl => by have := (HS2.out l hl).1; omega)).mono ?_
          rintro e w13 ⟨rfl, nq13, rfl⟩
          rw [← sym_iff ls ms, HW.out]
          have HB313 : Hid (Below w3.heap.size w3 (w12.drewN nq13)) := below_drewN HB312.out nq13
          generalize w12.drewN nq13 = w13 at *
          clear HC11 HB311 hz11 HC12 HC112 HB312 HB310 hz10
          have hz13 : w3.heap.size ≤ w13.heap.size := HB313.out.size
          -- pre
          go_wp2_with fail
          go_region_held3 (fun _ => True) (trivial)
            (first
              | (go_at_call_of 8 aoA; refine (build_any lt aoA cA w3.heap.size _ (HLA1.out.later HB313.out.drew (Nat.le_refl _) (Nat.le_refl _)) hz13 hLt1).mono ?_; rintro e w14 ⟨q14, rfl, hC14, hB14⟩; have HC14 : Hid (Chain w14 w14.heap.size (.pointer q14) lt) := hC14; have HB314 : Hid (Below w3.heap.size w3 w14) := HB313.out.drew.trans (hB14.mono hz13); clear hC14 hB14)
              | (go_at_call_of 8 aoB; refine (build_any mt aoB cB w3.heap.size _ (HLB1.out.later HB314.out (Nat.le_refl _) (Nat.le_refl _)) HB314.out.size hLt2).mono ?_; rintro e w15 ⟨q15, rfl, hC15, hB15⟩; have HC15 : Hid (Chain w15 w15.heap.size (.pointer q15) mt) := hC15; have HC1415 : Hid (Chain w15 w15.heap.size (.pointer q14) lt) := HC14.out.later hB15 (Nat.le_refl _) hB15.size; have HB315 : Hid (Below w3.heap.size w3 w15) := HB314.out.trans (hB15.mono HB314.out.size); clear hC15 hB15)
              | (go_at_call 9; refine (same_any lt mt q14 q15 w15.heap.size _ HC1415.out HC15.out HSt.out).mono ?_; rintro e w16 ⟨rfl, nq16, rfl⟩))
          have HB316 : Hid (Below w3.heap.size w3 (w15.drewN nq16)) := below_drewN HB315.out nq16
          have hz16 : w3.heap.size ≤ (w15.drewN nq16).heap.size := HB316.out.size
          clear HC14 HB314 HC15 HC1415 HB315 HB313 hz13
          go_wp2_with fail
          generalize w15.drewN nq16 = w16 at *
          -- suf
          go_region_held3 (fun _ => True) (trivial)
            (first
              | (go_at_call_of 8 aoA2; refine (build_any ld aoA2 cA2 w3.heap.size _ (HLA2.out.later HB316.out.drew (Nat.le_refl _) (Nat.le_refl _)) hz16 hLd1).mono ?_; rintro e w17 ⟨q17, rfl, hC17, hB17⟩; have HC17 : Hid (Chain w17 w17.heap.size (.pointer q17) ld) := hC17; have HB317 : Hid (Below w3.heap.size w3 w17) := HB316.out.drew.trans (hB17.mono hz16); clear hC17 hB17)
              | (go_at_call_of 8 aoB2; refine (build_any md aoB2 cB2 w3.heap.size _ (HLB2.out.later HB317.out (Nat.le_refl _) (Nat.le_refl _)) HB317.out.size hLd2).mono ?_; rintro e w18 ⟨q18, rfl, hC18, hB18⟩; have HC18 : Hid (Chain w18 w18.heap.size (.pointer q18) md) := hC18; have HC1718 : Hid (Chain w18 w18.heap.size (.pointer q17) ld) := HC17.out.later hB18 (Nat.le_refl _) hB18.size; have HB318 : Hid (Below w3.heap.size w3 w18) := HB317.out.trans (hB18.mono HB317.out.size); clear hC18 hB18)
              | (go_at_call 9; refine (same_any ld md q17 q18 w18.heap.size _ HC1718.out HC18.out HSd.out).mono ?_; rintro e w19 ⟨rfl, nq19, rfl⟩))
          have HFIN : Hid (Below w.heap.size w (w18.drewN nq19)) := below_drewN (HBw3.out.trans (HB318.out.mono hzw3)) nq19
          clear HC17 HB317 HC18 HC1718 HB318 HB316 hz16
          generalize decide (lt = mt) = pre at *
          generalize decide (ld = md) = suf at *
          have hwh := HCUT.out
          clear HCUT HW
          subst hwh
          cases pre <;> cases suf
          all_goals
            go_wp2_with fail
            go_ret
            exact ⟨rfl, HFIN.out⟩

    · by_cases hk0 : k < 0
      · obtain ⟨kk, hkk⟩ : ∃ kk : Nat, kk = 0 := ⟨0, rfl⟩
        have hkk1 : kk ≤ ls.length := by omega
        have hkk2 : kk ≤ ms.length := by omega
        have HSt : Hid (∀ l ∈ ls.take kk, l.1.length ≤ 1073741824) := fun l hl => by have := (HS1.out l (List.mem_of_mem_take hl)).1; omega
        have HSd : Hid (∀ l ∈ ls.drop kk, l.1.length ≤ 1073741824) := fun l hl => by have := (HS1.out l (List.mem_of_mem_drop hl)).1; omega
        go_wp2_with fail
        rw [show (Value.int .i64 0) = Value.int .i64 ((kk : Nat) : Int) from by rw [hkk]; rfl]
        clear hkk
        have hcA1 := cut_h ls aoA cA w3.heap.size kk w3 HA.out hkk1 hcA
        have hcB1 := cut_h ms aoB cB w3.heap.size kk w3 HB.out hkk2 hcB
        obtain ⟨aoA2, cA2, hsA2, hLA2⟩ := cut_l ls aoA cA w3.heap.size kk w3 HA.out hkk1 hcA
        obtain ⟨aoB2, cB2, hsB2, hLB2⟩ := cut_l ms aoB cB w3.heap.size kk w3 HB.out hkk2 hcB
        obtain ⟨hsA1, hLA1⟩ := hcA1
        obtain ⟨hsB1, hLB1⟩ := hcB1
        have HLA1 : Hid (LvlsAt w3 w3.heap.size aoA (ls.take kk)) := hLA1
        have HLB1 : Hid (LvlsAt w3 w3.heap.size aoB (ms.take kk)) := hLB1
        have HLA2 : Hid (LvlsAt w3 w3.heap.size aoA2 (ls.drop kk)) := hLA2
        have HLB2 : Hid (LvlsAt w3 w3.heap.size aoB2 (ms.drop kk)) := hLB2
        have HCUT : Hid (decide (ls = ms) = (decide (ls.take kk = ms.take kk) && decide (ls.drop kk = ms.drop kk))) := cut_iff ls ms kk
        have hLt1 : (ls.take kk).length ≤ 65536 := by rw [List.length_take]; omega
        have hLt2 : (ms.take kk).length ≤ 65536 := by rw [List.length_take]; omega
        have hLd1 : (ls.drop kk).length ≤ 65536 := by rw [List.length_drop]; omega
        have hLd2 : (ms.drop kk).length ≤ 65536 := by rw [List.length_drop]; omega
        clear hLA1 hLB1 hLA2 hLB2
        generalize hT1 : ls.take kk = lt at *
        generalize hT2 : ms.take kk = mt at *
        generalize hT3 : ls.drop kk = ld at *
        generalize hT4 : ms.drop kk = md at *
        have HT1 : Hid (ls.take kk = lt) := hT1
        have HT3 : Hid (ls.drop kk = ld) := hT3
        clear hT1 hT2 hT3 hT4
        -- !fnBuild(a).SameAs(fnBuild(fnCloneLevels(a)))
        refine (build_any ls aoA cA w3.heap.size w3 HA.out (Nat.le_refl _) hn1).mono ?_
        rintro e w4 ⟨q4, rfl, hC4, hB4⟩
        have HC4 : Hid (Chain w4 w4.heap.size (.pointer q4) ls) := hC4
        have HB4 : Hid (Below w3.heap.size w3 w4) := hB4
        have hz4 : w3.heap.size ≤ w4.heap.size := hB4.size
        clear hC4 hB4
        go_wp2_with fail
        refine (levels_any ls aoA cA w3.heap.size w4 (HA.out.later HB4.out (Nat.le_refl _) (Nat.le_refl _)) hz4 HAn.out hn1 (fun l hl => (HS1.out l hl).1)).mono ?_
        rintro e w5 ⟨ao5, c5, rfl, hL5, _, _, _, hB5⟩
        have HL5 : Hid (LvlsAt w5 w5.heap.size ao5 ls) := hL5
        have HB5 : Hid (Below w4.heap.size w4 w5) := hB5
        have hz5 : w4.heap.size ≤ w5.heap.size := hB5.size
        clear hL5 hB5
        go_wp2_with fail
        refine (build_any ls ao5 c5 w5.heap.size w5 HL5.out (Nat.le_refl _) hn1).mono ?_
        rintro e w6 ⟨q6, rfl, hC6, hB6⟩
        have HC6 : Hid (Chain w6 w6.heap.size (.pointer q6) ls) := hC6
        have hz6 : w5.heap.size ≤ w6.heap.size := hB6.size
        have HB46 : Hid (Below w4.heap.size w4 w6) := HB5.out.trans (hB6.mono hz5)
        have HC46 : Hid (Chain w6 w6.heap.size (.pointer q4) ls) := HC4.out.later HB46.out (Nat.le_refl _) (Nat.le_trans hz5 hz6)
        have HB36 : Hid (Below w3.heap.size w3 w6) := HB4.out.trans (HB46.out.mono hz4)
        clear hC6 hB6
        go_wp2_with fail
        refine (same_any ls ls q4 q6 w6.heap.size w6 HC46.out HC6.out (fun l hl => by have := (HS1.out l hl).1; omega)).mono ?_
        rintro e w7 ⟨rfl, nq7, rfl⟩
        rw [decide_eq_true rfl]
        have HB37 : Hid (Below w3.heap.size w3 (w6.drewN nq7)) := below_drewN HB36.out nq7
        generalize w6.drewN nq7 = w7 at *
        clear HC4 HB4 hz4 HL5 HB5 hz5 HC6 hz6 HB46 HC46 HB36
        have hz7 : w3.heap.size ≤ w7.heap.size := HB37.out.size
        -- whole
        go_wp2_with fail
        refine (build_any ls aoA cA w3.heap.size w7 (HA.out.later HB37.out (Nat.le_refl _) (Nat.le_refl _)) hz7 hn1).mono ?_
        rintro e w8 ⟨q8, rfl, hC8, hB8⟩
        have HC8 : Hid (Chain w8 w8.heap.size (.pointer q8) ls) := hC8
        have HB38 : Hid (Below w3.heap.size w3 w8) := HB37.out.trans (hB8.mono hz7)
        have hz8 : w3.heap.size ≤ w8.heap.size := HB38.out.size
        clear hC8 hB8
        go_wp2_with fail
        refine (build_any ms aoB cB w3.heap.size w8 (HB.out.later HB38.out (Nat.le_refl _) (Nat.le_refl _)) hz8 hn2).mono ?_
        rintro e w9 ⟨q9, rfl, hC9, hB9⟩
        have HC9 : Hid (Chain w9 w9.heap.size (.pointer q9) ms) := hC9
        have HC89 : Hid (Chain w9 w9.heap.size (.pointer q8) ls) := HC8.out.later hB9 (Nat.le_refl _) hB9.size
        have HB39 : Hid (Below w3.heap.size w3 w9) := HB38.out.trans (hB9.mono hz8)
        clear hC9 hB9
        go_wp2_with fail
        refine (same_any ls ms q8 q9 w9.heap.size w9 HC89.out HC9.out (fun l hl => by have := (HS1.out l hl).1; omega)).mono ?_
        rintro e w10 ⟨rfl, nq10, rfl⟩
        have HB310 : Hid (Below w3.heap.size w3 (w9.drewN nq10)) := below_drewN HB39.out nq10
        generalize w9.drewN nq10 = w10 at *
        generalize hW : decide (ls = ms) = whole at *
        have HW : Hid (decide (ls = ms) = whole) := hW
        clear HC8 HB38 hz8 HC9 HC89 HB39 hW HB37 hz7
        have hz10 : w3.heap.size ≤ w10.heap.size := HB310.out.size
        -- back
        go_wp2_with fail
        refine (build_any ms aoB cB w3.heap.size w10 (HB.out.later HB310.out (Nat.le_refl _) (Nat.le_refl _)) hz10 hn2).mono ?_
        rintro e w11 ⟨q11, rfl, hC11, hB11⟩
        have HC11 : Hid (Chain w11 w11.heap.size (.pointer q11) ms) := hC11
        have HB311 : Hid (Below w3.heap.size w3 w11) := HB310.out.trans (hB11.mono hz10)
        have hz11 : w3.heap.size ≤ w11.heap.size := HB311.out.size
        clear hC11 hB11
        go_wp2_with fail
        refine (build_any ls aoA cA w3.heap.size w11 (HA.out.later HB311.out (Nat.le_refl _) (Nat.le_refl _)) hz11 hn1).mono ?_
        rintro e w12 ⟨q12, rfl, hC12, hB12⟩
        have HC12 : Hid (Chain w12 w12.heap.size (.pointer q12) ls) := hC12
        have HC112 : Hid (Chain w12 w12.heap.size (.pointer q11) ms) := HC11.out.later hB12 (Nat.le_refl _) hB12.size
        have HB312 : Hid (Below w3.heap.size w3 w12) := HB311.out.trans (hB12.mono hz11)
        clear hC12 hB12
        go_wp2_with fail
        refine (same_any ms ls q11 q12 w12.heap.size w12 HC112.out HC12.out (fun l hl => by have := (HS2.out l hl).1; omega)).mono ?_
        rintro e w13 ⟨rfl, nq13, rfl⟩
        rw [← sym_iff ls ms, HW.out]
        have HB313 : Hid (Below w3.heap.size w3 (w12.drewN nq13)) := below_drewN HB312.out nq13
        generalize w12.drewN nq13 = w13 at *
        clear HC11 HB311 hz11 HC12 HC112 HB312 HB310 hz10
        have hz13 : w3.heap.size ≤ w13.heap.size := HB313.out.size
        -- pre
        go_wp2_with fail
        go_region_held3 (fun _ => True) (trivial)
          (first
            | (go_at_call_of 8 aoA; refine (build_any lt aoA cA w3.heap.size _ (HLA1.out.later HB313.out.drew (Nat.le_refl _) (Nat.le_refl _)) hz13 hLt1).mono ?_; rintro e w14 ⟨q14, rfl, hC14, hB14⟩; have HC14 : Hid (Chain w14 w14.heap.size (.pointer q14) lt) := hC14; have HB314 : Hid (Below w3.heap.size w3 w14) := HB313.out.drew.trans (hB14.mono hz13); clear hC14 hB14)
            | (go_at_call_of 8 aoB; refine (build_any mt aoB cB w3.heap.size _ (HLB1.out.later HB314.out (Nat.le_refl _) (Nat.le_refl _)) HB314.out.size hLt2).mono ?_; rintro e w15 ⟨q15, rfl, hC15, hB15⟩; have HC15 : Hid (Chain w15 w15.heap.size (.pointer q15) mt) := hC15; have HC1415 : Hid (Chain w15 w15.heap.size (.pointer q14) lt) := HC14.out.later hB15 (Nat.le_refl _) hB15.size; have HB315 : Hid (Below w3.heap.size w3 w15) := HB314.out.trans (hB15.mono HB314.out.size); clear hC15 hB15)
            | (go_at_call 9; refine (same_any lt mt q14 q15 w15.heap.size _ HC1415.out HC15.out HSt.out).mono ?_; rintro e w16 ⟨rfl, nq16, rfl⟩))
        have HB316 : Hid (Below w3.heap.size w3 (w15.drewN nq16)) := below_drewN HB315.out nq16
        have hz16 : w3.heap.size ≤ (w15.drewN nq16).heap.size := HB316.out.size
        clear HC14 HB314 HC15 HC1415 HB315 HB313 hz13
        go_wp2_with fail
        generalize w15.drewN nq16 = w16 at *
        -- suf
        go_region_held3 (fun _ => True) (trivial)
          (first
            | (go_at_call_of 8 aoA2; refine (build_any ld aoA2 cA2 w3.heap.size _ (HLA2.out.later HB316.out.drew (Nat.le_refl _) (Nat.le_refl _)) hz16 hLd1).mono ?_; rintro e w17 ⟨q17, rfl, hC17, hB17⟩; have HC17 : Hid (Chain w17 w17.heap.size (.pointer q17) ld) := hC17; have HB317 : Hid (Below w3.heap.size w3 w17) := HB316.out.drew.trans (hB17.mono hz16); clear hC17 hB17)
            | (go_at_call_of 8 aoB2; refine (build_any md aoB2 cB2 w3.heap.size _ (HLB2.out.later HB317.out (Nat.le_refl _) (Nat.le_refl _)) HB317.out.size hLd2).mono ?_; rintro e w18 ⟨q18, rfl, hC18, hB18⟩; have HC18 : Hid (Chain w18 w18.heap.size (.pointer q18) md) := hC18; have HC1718 : Hid (Chain w18 w18.heap.size (.pointer q17) ld) := HC17.out.later hB18 (Nat.le_refl _) hB18.size; have HB318 : Hid (Below w3.heap.size w3 w18) := HB317.out.trans (hB18.mono HB317.out.size); clear hC18 hB18)
            | (go_at_call 9; refine (same_any ld md q17 q18 w18.heap.size _ HC1718.out HC18.out HSd.out).mono ?_; rintro e w19 ⟨rfl, nq19, rfl⟩))
        have HFIN : Hid (Below w.heap.size w (w18.drewN nq19)) := below_drewN (HBw3.out.trans (HB318.out.mono hzw3)) nq19
        clear HC17 HB317 HC18 HC1718 HB318 HB316 hz16
        generalize decide (lt = mt) = pre at *
        generalize decide (ld = md) = suf at *
        have hwh := HCUT.out
        clear HCUT HW
        subst hwh
        cases pre <;> cases suf
        all_goals
          go_wp2_with fail
          go_ret
          exact ⟨rfl, HFIN.out⟩
      · obtain ⟨k0, rfl⟩ := Int.eq_ofNat_of_zero_le (show 0 ≤ k by omega)
        by_cases hkm : k0 ≤ ls.length
        · obtain ⟨kk, rfl⟩ : ∃ kk, kk = k0 := ⟨_, rfl⟩
          have hkm' : ¬ (ls.length : Int) < kk := by omega
          have hkk1 : kk ≤ ls.length := by omega
          have hkk2 : kk ≤ ms.length := by omega
          have HSt : Hid (∀ l ∈ ls.take kk, l.1.length ≤ 1073741824) := fun l hl => by have := (HS1.out l (List.mem_of_mem_take hl)).1; omega
          have HSd : Hid (∀ l ∈ ls.drop kk, l.1.length ≤ 1073741824) := fun l hl => by have := (HS1.out l (List.mem_of_mem_drop hl)).1; omega
          go_wp2_with fail
          have hcA1 := cut_h ls aoA cA w3.heap.size kk w3 HA.out hkk1 hcA
          have hcB1 := cut_h ms aoB cB w3.heap.size kk w3 HB.out hkk2 hcB
          obtain ⟨aoA2, cA2, hsA2, hLA2⟩ := cut_l ls aoA cA w3.heap.size kk w3 HA.out hkk1 hcA
          obtain ⟨aoB2, cB2, hsB2, hLB2⟩ := cut_l ms aoB cB w3.heap.size kk w3 HB.out hkk2 hcB
          obtain ⟨hsA1, hLA1⟩ := hcA1
          obtain ⟨hsB1, hLB1⟩ := hcB1
          have HLA1 : Hid (LvlsAt w3 w3.heap.size aoA (ls.take kk)) := hLA1
          have HLB1 : Hid (LvlsAt w3 w3.heap.size aoB (ms.take kk)) := hLB1
          have HLA2 : Hid (LvlsAt w3 w3.heap.size aoA2 (ls.drop kk)) := hLA2
          have HLB2 : Hid (LvlsAt w3 w3.heap.size aoB2 (ms.drop kk)) := hLB2
          have HCUT : Hid (decide (ls = ms) = (decide (ls.take kk = ms.take kk) && decide (ls.drop kk = ms.drop kk))) := cut_iff ls ms kk
          have hLt1 : (ls.take kk).length ≤ 65536 := by rw [List.length_take]; omega
          have hLt2 : (ms.take kk).length ≤ 65536 := by rw [List.length_take]; omega
          have hLd1 : (ls.drop kk).length ≤ 65536 := by rw [List.length_drop]; omega
          have hLd2 : (ms.drop kk).length ≤ 65536 := by rw [List.length_drop]; omega
          clear hLA1 hLB1 hLA2 hLB2
          generalize hT1 : ls.take kk = lt at *
          generalize hT2 : ms.take kk = mt at *
          generalize hT3 : ls.drop kk = ld at *
          generalize hT4 : ms.drop kk = md at *
          have HT1 : Hid (ls.take kk = lt) := hT1
          have HT3 : Hid (ls.drop kk = ld) := hT3
          clear hT1 hT2 hT3 hT4
          -- !fnBuild(a).SameAs(fnBuild(fnCloneLevels(a)))
          refine (build_any ls aoA cA w3.heap.size w3 HA.out (Nat.le_refl _) hn1).mono ?_
          rintro e w4 ⟨q4, rfl, hC4, hB4⟩
          have HC4 : Hid (Chain w4 w4.heap.size (.pointer q4) ls) := hC4
          have HB4 : Hid (Below w3.heap.size w3 w4) := hB4
          have hz4 : w3.heap.size ≤ w4.heap.size := hB4.size
          clear hC4 hB4
          go_wp2_with fail
          refine (levels_any ls aoA cA w3.heap.size w4 (HA.out.later HB4.out (Nat.le_refl _) (Nat.le_refl _)) hz4 HAn.out hn1 (fun l hl => (HS1.out l hl).1)).mono ?_
          rintro e w5 ⟨ao5, c5, rfl, hL5, _, _, _, hB5⟩
          have HL5 : Hid (LvlsAt w5 w5.heap.size ao5 ls) := hL5
          have HB5 : Hid (Below w4.heap.size w4 w5) := hB5
          have hz5 : w4.heap.size ≤ w5.heap.size := hB5.size
          clear hL5 hB5
          go_wp2_with fail
          refine (build_any ls ao5 c5 w5.heap.size w5 HL5.out (Nat.le_refl _) hn1).mono ?_
          rintro e w6 ⟨q6, rfl, hC6, hB6⟩
          have HC6 : Hid (Chain w6 w6.heap.size (.pointer q6) ls) := hC6
          have hz6 : w5.heap.size ≤ w6.heap.size := hB6.size
          have HB46 : Hid (Below w4.heap.size w4 w6) := HB5.out.trans (hB6.mono hz5)
          have HC46 : Hid (Chain w6 w6.heap.size (.pointer q4) ls) := HC4.out.later HB46.out (Nat.le_refl _) (Nat.le_trans hz5 hz6)
          have HB36 : Hid (Below w3.heap.size w3 w6) := HB4.out.trans (HB46.out.mono hz4)
          clear hC6 hB6
          go_wp2_with fail
          refine (same_any ls ls q4 q6 w6.heap.size w6 HC46.out HC6.out (fun l hl => by have := (HS1.out l hl).1; omega)).mono ?_
          rintro e w7 ⟨rfl, nq7, rfl⟩
          rw [decide_eq_true rfl]
          have HB37 : Hid (Below w3.heap.size w3 (w6.drewN nq7)) := below_drewN HB36.out nq7
          generalize w6.drewN nq7 = w7 at *
          clear HC4 HB4 hz4 HL5 HB5 hz5 HC6 hz6 HB46 HC46 HB36
          have hz7 : w3.heap.size ≤ w7.heap.size := HB37.out.size
          -- whole
          go_wp2_with fail
          refine (build_any ls aoA cA w3.heap.size w7 (HA.out.later HB37.out (Nat.le_refl _) (Nat.le_refl _)) hz7 hn1).mono ?_
          rintro e w8 ⟨q8, rfl, hC8, hB8⟩
          have HC8 : Hid (Chain w8 w8.heap.size (.pointer q8) ls) := hC8
          have HB38 : Hid (Below w3.heap.size w3 w8) := HB37.out.trans (hB8.mono hz7)
          have hz8 : w3.heap.size ≤ w8.heap.size := HB38.out.size
          clear hC8 hB8
          go_wp2_with fail
          refine (build_any ms aoB cB w3.heap.size w8 (HB.out.later HB38.out (Nat.le_refl _) (Nat.le_refl _)) hz8 hn2).mono ?_
          rintro e w9 ⟨q9, rfl, hC9, hB9⟩
          have HC9 : Hid (Chain w9 w9.heap.size (.pointer q9) ms) := hC9
          have HC89 : Hid (Chain w9 w9.heap.size (.pointer q8) ls) := HC8.out.later hB9 (Nat.le_refl _) hB9.size
          have HB39 : Hid (Below w3.heap.size w3 w9) := HB38.out.trans (hB9.mono hz8)
          clear hC9 hB9
          go_wp2_with fail
          refine (same_any ls ms q8 q9 w9.heap.size w9 HC89.out HC9.out (fun l hl => by have := (HS1.out l hl).1; omega)).mono ?_
          rintro e w10 ⟨rfl, nq10, rfl⟩
          have HB310 : Hid (Below w3.heap.size w3 (w9.drewN nq10)) := below_drewN HB39.out nq10
          generalize w9.drewN nq10 = w10 at *
          generalize hW : decide (ls = ms) = whole at *
          have HW : Hid (decide (ls = ms) = whole) := hW
          clear HC8 HB38 hz8 HC9 HC89 HB39 hW HB37 hz7
          have hz10 : w3.heap.size ≤ w10.heap.size := HB310.out.size
          -- back
          go_wp2_with fail
          refine (build_any ms aoB cB w3.heap.size w10 (HB.out.later HB310.out (Nat.le_refl _) (Nat.le_refl _)) hz10 hn2).mono ?_
          rintro e w11 ⟨q11, rfl, hC11, hB11⟩
          have HC11 : Hid (Chain w11 w11.heap.size (.pointer q11) ms) := hC11
          have HB311 : Hid (Below w3.heap.size w3 w11) := HB310.out.trans (hB11.mono hz10)
          have hz11 : w3.heap.size ≤ w11.heap.size := HB311.out.size
          clear hC11 hB11
          go_wp2_with fail
          refine (build_any ls aoA cA w3.heap.size w11 (HA.out.later HB311.out (Nat.le_refl _) (Nat.le_refl _)) hz11 hn1).mono ?_
          rintro e w12 ⟨q12, rfl, hC12, hB12⟩
          have HC12 : Hid (Chain w12 w12.heap.size (.pointer q12) ls) := hC12
          have HC112 : Hid (Chain w12 w12.heap.size (.pointer q11) ms) := HC11.out.later hB12 (Nat.le_refl _) hB12.size
          have HB312 : Hid (Below w3.heap.size w3 w12) := HB311.out.trans (hB12.mono hz11)
          clear hC12 hB12
          go_wp2_with fail
          refine (same_any ms ls q11 q12 w12.heap.size w12 HC112.out HC12.out (fun l hl => by have := (HS2.out l hl).1; omega)).mono ?_
          rintro e w13 ⟨rfl, nq13, rfl⟩
          rw [← sym_iff ls ms, HW.out]
          have HB313 : Hid (Below w3.heap.size w3 (w12.drewN nq13)) := below_drewN HB312.out nq13
          generalize w12.drewN nq13 = w13 at *
          clear HC11 HB311 hz11 HC12 HC112 HB312 HB310 hz10
          have hz13 : w3.heap.size ≤ w13.heap.size := HB313.out.size
          -- pre
          go_wp2_with fail
          go_region_held3 (fun _ => True) (trivial)
            (first
              | (go_at_call_of 8 aoA; refine (build_any lt aoA cA w3.heap.size _ (HLA1.out.later HB313.out.drew (Nat.le_refl _) (Nat.le_refl _)) hz13 hLt1).mono ?_; rintro e w14 ⟨q14, rfl, hC14, hB14⟩; have HC14 : Hid (Chain w14 w14.heap.size (.pointer q14) lt) := hC14; have HB314 : Hid (Below w3.heap.size w3 w14) := HB313.out.drew.trans (hB14.mono hz13); clear hC14 hB14)
              | (go_at_call_of 8 aoB; refine (build_any mt aoB cB w3.heap.size _ (HLB1.out.later HB314.out (Nat.le_refl _) (Nat.le_refl _)) HB314.out.size hLt2).mono ?_; rintro e w15 ⟨q15, rfl, hC15, hB15⟩; have HC15 : Hid (Chain w15 w15.heap.size (.pointer q15) mt) := hC15; have HC1415 : Hid (Chain w15 w15.heap.size (.pointer q14) lt) := HC14.out.later hB15 (Nat.le_refl _) hB15.size; have HB315 : Hid (Below w3.heap.size w3 w15) := HB314.out.trans (hB15.mono HB314.out.size); clear hC15 hB15)
              | (go_at_call 9; refine (same_any lt mt q14 q15 w15.heap.size _ HC1415.out HC15.out HSt.out).mono ?_; rintro e w16 ⟨rfl, nq16, rfl⟩))
          have HB316 : Hid (Below w3.heap.size w3 (w15.drewN nq16)) := below_drewN HB315.out nq16
          have hz16 : w3.heap.size ≤ (w15.drewN nq16).heap.size := HB316.out.size
          clear HC14 HB314 HC15 HC1415 HB315 HB313 hz13
          go_wp2_with fail
          generalize w15.drewN nq16 = w16 at *
          -- suf
          go_region_held3 (fun _ => True) (trivial)
            (first
              | (go_at_call_of 8 aoA2; refine (build_any ld aoA2 cA2 w3.heap.size _ (HLA2.out.later HB316.out.drew (Nat.le_refl _) (Nat.le_refl _)) hz16 hLd1).mono ?_; rintro e w17 ⟨q17, rfl, hC17, hB17⟩; have HC17 : Hid (Chain w17 w17.heap.size (.pointer q17) ld) := hC17; have HB317 : Hid (Below w3.heap.size w3 w17) := HB316.out.drew.trans (hB17.mono hz16); clear hC17 hB17)
              | (go_at_call_of 8 aoB2; refine (build_any md aoB2 cB2 w3.heap.size _ (HLB2.out.later HB317.out (Nat.le_refl _) (Nat.le_refl _)) HB317.out.size hLd2).mono ?_; rintro e w18 ⟨q18, rfl, hC18, hB18⟩; have HC18 : Hid (Chain w18 w18.heap.size (.pointer q18) md) := hC18; have HC1718 : Hid (Chain w18 w18.heap.size (.pointer q17) ld) := HC17.out.later hB18 (Nat.le_refl _) hB18.size; have HB318 : Hid (Below w3.heap.size w3 w18) := HB317.out.trans (hB18.mono HB317.out.size); clear hC18 hB18)
              | (go_at_call 9; refine (same_any ld md q17 q18 w18.heap.size _ HC1718.out HC18.out HSd.out).mono ?_; rintro e w19 ⟨rfl, nq19, rfl⟩))
          have HFIN : Hid (Below w.heap.size w (w18.drewN nq19)) := below_drewN (HBw3.out.trans (HB318.out.mono hzw3)) nq19
          clear HC17 HB317 HC18 HC1718 HB318 HB316 hz16
          generalize decide (lt = mt) = pre at *
          generalize decide (ld = md) = suf at *
          have hwh := HCUT.out
          clear HCUT HW
          subst hwh
          cases pre <;> cases suf
          all_goals
            go_wp2_with fail
            go_ret
            exact ⟨rfl, HFIN.out⟩
        · have hkm' : (ls.length : Int) < k0 := by omega
          have hkk1 : ls.length ≤ ls.length := by omega
          have hkk2 : ls.length ≤ ms.length := by omega
          have HSt : Hid (∀ l ∈ ls.take ls.length, l.1.length ≤ 1073741824) := fun l hl => by have := (HS1.out l (List.mem_of_mem_take hl)).1; omega
          have HSd : Hid (∀ l ∈ ls.drop ls.length, l.1.length ≤ 1073741824) := fun l hl => by have := (HS1.out l (List.mem_of_mem_drop hl)).1; omega
          go_wp2_with fail
          have hcA1 := cut_h ls aoA cA w3.heap.size ls.length w3 HA.out hkk1 hcA
          have hcB1 := cut_h ms aoB cB w3.heap.size ls.length w3 HB.out hkk2 hcB
          obtain ⟨aoA2, cA2, hsA2, hLA2⟩ := cut_l ls aoA cA w3.heap.size ls.length w3 HA.out hkk1 hcA
          obtain ⟨aoB2, cB2, hsB2, hLB2⟩ := cut_l ms aoB cB w3.heap.size ls.length w3 HB.out hkk2 hcB
          obtain ⟨hsA1, hLA1⟩ := hcA1
          obtain ⟨hsB1, hLB1⟩ := hcB1
          have HLA1 : Hid (LvlsAt w3 w3.heap.size aoA (ls.take ls.length)) := hLA1
          have HLB1 : Hid (LvlsAt w3 w3.heap.size aoB (ms.take ls.length)) := hLB1
          have HLA2 : Hid (LvlsAt w3 w3.heap.size aoA2 (ls.drop ls.length)) := hLA2
          have HLB2 : Hid (LvlsAt w3 w3.heap.size aoB2 (ms.drop ls.length)) := hLB2
          have HCUT : Hid (decide (ls = ms) = (decide (ls.take ls.length = ms.take ls.length) && decide (ls.drop ls.length = ms.drop ls.length))) := cut_iff ls ms ls.length
          have hLt1 : (ls.take ls.length).length ≤ 65536 := by rw [List.length_take]; omega
          have hLt2 : (ms.take ls.length).length ≤ 65536 := by rw [List.length_take]; omega
          have hLd1 : (ls.drop ls.length).length ≤ 65536 := by rw [List.length_drop]; omega
          have hLd2 : (ms.drop ls.length).length ≤ 65536 := by rw [List.length_drop]; omega
          clear hLA1 hLB1 hLA2 hLB2
          generalize hT1 : ls.take ls.length = lt at *
          generalize hT2 : ms.take ls.length = mt at *
          generalize hT3 : ls.drop ls.length = ld at *
          generalize hT4 : ms.drop ls.length = md at *
          have HT1 : Hid (ls.take ls.length = lt) := hT1
          have HT3 : Hid (ls.drop ls.length = ld) := hT3
          clear hT1 hT2 hT3 hT4
          -- !fnBuild(a).SameAs(fnBuild(fnCloneLevels(a)))
          refine (build_any ls aoA cA w3.heap.size w3 HA.out (Nat.le_refl _) hn1).mono ?_
          rintro e w4 ⟨q4, rfl, hC4, hB4⟩
          have HC4 : Hid (Chain w4 w4.heap.size (.pointer q4) ls) := hC4
          have HB4 : Hid (Below w3.heap.size w3 w4) := hB4
          have hz4 : w3.heap.size ≤ w4.heap.size := hB4.size
          clear hC4 hB4
          go_wp2_with fail
          refine (levels_any ls aoA cA w3.heap.size w4 (HA.out.later HB4.out (Nat.le_refl _) (Nat.le_refl _)) hz4 HAn.out hn1 (fun l hl => (HS1.out l hl).1)).mono ?_
          rintro e w5 ⟨ao5, c5, rfl, hL5, _, _, _, hB5⟩
          have HL5 : Hid (LvlsAt w5 w5.heap.size ao5 ls) := hL5
          have HB5 : Hid (Below w4.heap.size w4 w5) := hB5
          have hz5 : w4.heap.size ≤ w5.heap.size := hB5.size
          clear hL5 hB5
          go_wp2_with fail
          refine (build_any ls ao5 c5 w5.heap.size w5 HL5.out (Nat.le_refl _) hn1).mono ?_
          rintro e w6 ⟨q6, rfl, hC6, hB6⟩
          have HC6 : Hid (Chain w6 w6.heap.size (.pointer q6) ls) := hC6
          have hz6 : w5.heap.size ≤ w6.heap.size := hB6.size
          have HB46 : Hid (Below w4.heap.size w4 w6) := HB5.out.trans (hB6.mono hz5)
          have HC46 : Hid (Chain w6 w6.heap.size (.pointer q4) ls) := HC4.out.later HB46.out (Nat.le_refl _) (Nat.le_trans hz5 hz6)
          have HB36 : Hid (Below w3.heap.size w3 w6) := HB4.out.trans (HB46.out.mono hz4)
          clear hC6 hB6
          go_wp2_with fail
          refine (same_any ls ls q4 q6 w6.heap.size w6 HC46.out HC6.out (fun l hl => by have := (HS1.out l hl).1; omega)).mono ?_
          rintro e w7 ⟨rfl, nq7, rfl⟩
          rw [decide_eq_true rfl]
          have HB37 : Hid (Below w3.heap.size w3 (w6.drewN nq7)) := below_drewN HB36.out nq7
          generalize w6.drewN nq7 = w7 at *
          clear HC4 HB4 hz4 HL5 HB5 hz5 HC6 hz6 HB46 HC46 HB36
          have hz7 : w3.heap.size ≤ w7.heap.size := HB37.out.size
          -- whole
          go_wp2_with fail
          refine (build_any ls aoA cA w3.heap.size w7 (HA.out.later HB37.out (Nat.le_refl _) (Nat.le_refl _)) hz7 hn1).mono ?_
          rintro e w8 ⟨q8, rfl, hC8, hB8⟩
          have HC8 : Hid (Chain w8 w8.heap.size (.pointer q8) ls) := hC8
          have HB38 : Hid (Below w3.heap.size w3 w8) := HB37.out.trans (hB8.mono hz7)
          have hz8 : w3.heap.size ≤ w8.heap.size := HB38.out.size
          clear hC8 hB8
          go_wp2_with fail
          refine (build_any ms aoB cB w3.heap.size w8 (HB.out.later HB38.out (Nat.le_refl _) (Nat.le_refl _)) hz8 hn2).mono ?_
          rintro e w9 ⟨q9, rfl, hC9, hB9⟩
          have HC9 : Hid (Chain w9 w9.heap.size (.pointer q9) ms) := hC9
          have HC89 : Hid (Chain w9 w9.heap.size (.pointer q8) ls) := HC8.out.later hB9 (Nat.le_refl _) hB9.size
          have HB39 : Hid (Below w3.heap.size w3 w9) := HB38.out.trans (hB9.mono hz8)
          clear hC9 hB9
          go_wp2_with fail
          refine (same_any ls ms q8 q9 w9.heap.size w9 HC89.out HC9.out (fun l hl => by have := (HS1.out l hl).1; omega)).mono ?_
          rintro e w10 ⟨rfl, nq10, rfl⟩
          have HB310 : Hid (Below w3.heap.size w3 (w9.drewN nq10)) := below_drewN HB39.out nq10
          generalize w9.drewN nq10 = w10 at *
          generalize hW : decide (ls = ms) = whole at *
          have HW : Hid (decide (ls = ms) = whole) := hW
          clear HC8 HB38 hz8 HC9 HC89 HB39 hW HB37 hz7
          have hz10 : w3.heap.size ≤ w10.heap.size := HB310.out.size
          -- back
          go_wp2_with fail
          refine (build_any ms aoB cB w3.heap.size w10 (HB.out.later HB310.out (Nat.le_refl _) (Nat.le_refl _)) hz10 hn2).mono ?_
          rintro e w11 ⟨q11, rfl, hC11, hB11⟩
          have HC11 : Hid (Chain w11 w11.heap.size (.pointer q11) ms) := hC11
          have HB311 : Hid (Below w3.heap.size w3 w11) := HB310.out.trans (hB11.mono hz10)
          have hz11 : w3.heap.size ≤ w11.heap.size := HB311.out.size
          clear hC11 hB11
          go_wp2_with fail
          refine (build_any ls aoA cA w3.heap.size w11 (HA.out.later HB311.out (Nat.le_refl _) (Nat.le_refl _)) hz11 hn1).mono ?_
          rintro e w12 ⟨q12, rfl, hC12, hB12⟩
          have HC12 : Hid (Chain w12 w12.heap.size (.pointer q12) ls) := hC12
          have HC112 : Hid (Chain w12 w12.heap.size (.pointer q11) ms) := HC11.out.later hB12 (Nat.le_refl _) hB12.size
          have HB312 : Hid (Below w3.heap.size w3 w12) := HB311.out.trans (hB12.mono hz11)
          clear hC12 hB12
          go_wp2_with fail
          refine (same_any ms ls q11 q12 w12.heap.size w12 HC112.out HC12.out (fun l hl => by have := (HS2.out l hl).1; omega)).mono ?_
          rintro e w13 ⟨rfl, nq13, rfl⟩
          rw [← sym_iff ls ms, HW.out]
          have HB313 : Hid (Below w3.heap.size w3 (w12.drewN nq13)) := below_drewN HB312.out nq13
          generalize w12.drewN nq13 = w13 at *
          clear HC11 HB311 hz11 HC12 HC112 HB312 HB310 hz10
          have hz13 : w3.heap.size ≤ w13.heap.size := HB313.out.size
          -- pre
          go_wp2_with fail
          go_region_held3 (fun _ => True) (trivial)
            (first
              | (go_at_call_of 8 aoA; refine (build_any lt aoA cA w3.heap.size _ (HLA1.out.later HB313.out.drew (Nat.le_refl _) (Nat.le_refl _)) hz13 hLt1).mono ?_; rintro e w14 ⟨q14, rfl, hC14, hB14⟩; have HC14 : Hid (Chain w14 w14.heap.size (.pointer q14) lt) := hC14; have HB314 : Hid (Below w3.heap.size w3 w14) := HB313.out.drew.trans (hB14.mono hz13); clear hC14 hB14)
              | (go_at_call_of 8 aoB; refine (build_any mt aoB cB w3.heap.size _ (HLB1.out.later HB314.out (Nat.le_refl _) (Nat.le_refl _)) HB314.out.size hLt2).mono ?_; rintro e w15 ⟨q15, rfl, hC15, hB15⟩; have HC15 : Hid (Chain w15 w15.heap.size (.pointer q15) mt) := hC15; have HC1415 : Hid (Chain w15 w15.heap.size (.pointer q14) lt) := HC14.out.later hB15 (Nat.le_refl _) hB15.size; have HB315 : Hid (Below w3.heap.size w3 w15) := HB314.out.trans (hB15.mono HB314.out.size); clear hC15 hB15)
              | (go_at_call 9; refine (same_any lt mt q14 q15 w15.heap.size _ HC1415.out HC15.out HSt.out).mono ?_; rintro e w16 ⟨rfl, nq16, rfl⟩))
          have HB316 : Hid (Below w3.heap.size w3 (w15.drewN nq16)) := below_drewN HB315.out nq16
          have hz16 : w3.heap.size ≤ (w15.drewN nq16).heap.size := HB316.out.size
          clear HC14 HB314 HC15 HC1415 HB315 HB313 hz13
          go_wp2_with fail
          generalize w15.drewN nq16 = w16 at *
          -- suf
          go_region_held3 (fun _ => True) (trivial)
            (first
              | (go_at_call_of 8 aoA2; refine (build_any ld aoA2 cA2 w3.heap.size _ (HLA2.out.later HB316.out.drew (Nat.le_refl _) (Nat.le_refl _)) hz16 hLd1).mono ?_; rintro e w17 ⟨q17, rfl, hC17, hB17⟩; have HC17 : Hid (Chain w17 w17.heap.size (.pointer q17) ld) := hC17; have HB317 : Hid (Below w3.heap.size w3 w17) := HB316.out.drew.trans (hB17.mono hz16); clear hC17 hB17)
              | (go_at_call_of 8 aoB2; refine (build_any md aoB2 cB2 w3.heap.size _ (HLB2.out.later HB317.out (Nat.le_refl _) (Nat.le_refl _)) HB317.out.size hLd2).mono ?_; rintro e w18 ⟨q18, rfl, hC18, hB18⟩; have HC18 : Hid (Chain w18 w18.heap.size (.pointer q18) md) := hC18; have HC1718 : Hid (Chain w18 w18.heap.size (.pointer q17) ld) := HC17.out.later hB18 (Nat.le_refl _) hB18.size; have HB318 : Hid (Below w3.heap.size w3 w18) := HB317.out.trans (hB18.mono HB317.out.size); clear hC18 hB18)
              | (go_at_call 9; refine (same_any ld md q17 q18 w18.heap.size _ HC1718.out HC18.out HSd.out).mono ?_; rintro e w19 ⟨rfl, nq19, rfl⟩))
          have HFIN : Hid (Below w.heap.size w (w18.drewN nq19)) := below_drewN (HBw3.out.trans (HB318.out.mono hzw3)) nq19
          clear HC17 HB317 HC18 HC1718 HB318 HB316 hz16
          generalize decide (lt = mt) = pre at *
          generalize decide (ld = md) = suf at *
          have hwh := HCUT.out
          clear HCUT HW
          subst hwh
          cases pre <;> cases suf
          all_goals
            go_wp2_with fail
            go_ret
            exact ⟨rfl, HFIN.out⟩

end Go.Proofs.Qxb6628598a

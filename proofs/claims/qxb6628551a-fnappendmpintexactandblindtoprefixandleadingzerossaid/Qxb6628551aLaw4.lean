import Derived.Test.Qxb6628551aMem
namespace Go.Proofs.Qxb6628551a
open Go.ChangeShapes Go.WideShapes Go.ChangeAt Go.RowKit

theorem clone_any (xs : List Int) (ao : Option Addr) (c B : Nat) (w : World) (hr : Rd w B ao xs) (hB : B ≤ w.heap.size) (hc : ao = none → c = 0) (hn : xs.length ≤ 1048576) :
    Calls Try.prog 6 #[.slice ao xs.length c] w fun e w' => ∃ v, e = .returned v ∧ Owns w' w.heap.size v xs ∧ Below w.heap.size w w' := by
  cases ao with
  | none =>
    obtain rfl := hr.nil rfl
    obtain rfl := hc rfl
    exact clone_nil w
  | some ad => exact clone_some xs ad c w (hr.mono hB) hn

set_option maxHeartbeats 1000000 in
theorem law4_some (bs ns : List Int) (a0 : Option Addr) (c0 : Nat) (ad : Addr) (c1 : Nat) (w : World) (hb : Rd w w.heap.size a0 bs) (hc0 : a0 = none → c0 = 0) (hn : Rd w w.heap.size (some ad) ns)
    (hlb : bs.length ≤ 524288) (hln : ns.length ≤ 524288) (hB : Byt ns) :
    Calls Try.prog 4 #[.slice a0 bs.length c0, .slice (some ad) ns.length c1] w fun e w' => e = .returned (.bool true) ∧ Below w.heap.size w w' := by
  obtain ⟨i0, hi, hz0, hz1, hz2⟩ := info_parts Try.info5
  have hne := fun wx : World => run_neq_slice_nil_any (P := Try.prog) wx 22 5 (some ad) ns.length c1 0 0 Try.underlying22
  have h1 : ¬ (524288 : Int) < bs.length := by omega
  have h2 : ¬ (524288 : Int) < ns.length := by omega
  have Hb : Hid (Rd w w.heap.size a0 bs) := hb
  have Hn : Hid (Rd w w.heap.size (some ad) ns) := hn
  clear hb hn
  go_enter Try.func4, Try.ntmps4
  go_wp2_with (first
    | (go_at_call 13; refine (b13_ok _ _ _ _ _ _ _ (by omega)).mono ?_; rintro e w' ⟨rfl, rfl⟩)
    | (at_make; refine wpList_make_full _ rfl _ _ 22 rfl w.heap.size 5 i0 (.int .u8 0) 1 Try.underlying22 hi hz0 hz1 _ _ _ _ ns.length rfl rfl (by first | rfl | omega) (by first | rfl | omega) (by rw [hz2]; omega) (by unfold maxLen; omega) (Nat.le_refl _) ?_; intro w1 hown hgrow
       have hB1 : Below w.heap.size w w1 := (Below.refl _ _).grown hgrow (Nat.le_refl _) (fun k hk => by cases hk)
       obtain ⟨w2, hcp, hO2, hB2⟩ := copy_run w.heap.size w.heap.size ns ad c1 _ w1 hown ((Hn.out.later hB1 (Nat.le_refl _)).news ad rfl)
       have HO2 : Hid (Owns w2 w.heap.size (.slice (some ⟨w.heap.size, 0, none⟩) ns.length ns.length) ns) := hO2
       have HB2 : Hid (Below w.heap.size w w2) := hB1.trans hB2
       clear hown hgrow hB1 hO2 hB2))
  have HnW : Hid (Rd w2 w2.heap.size (some ⟨w.heap.size, 0, none⟩) ns) := by
    by_cases hp : 0 < ns.length
    · obtain ⟨g, cap, hv, _, _, hR⟩ := HO2.out.shape hp
      simp only [Value.slice.injEq, Option.some.injEq, Addr.mk.injEq, and_true, true_and] at hv
      obtain ⟨rfl, rfl⟩ := hv
      exact hR
    · exact .inl (List.eq_nil_of_length_eq_zero (by omega))
  have HbW : Hid (Rd w2 w2.heap.size a0 bs) := (Hb.out.later HB2.out (Nat.le_refl _)).mono HB2.out.size
  clear hne hcp Hb Hn HO2
  -- the call of cloneBytes in the world W; n is the slice (some ⟨w.heap.size, 0, none⟩)
  refine (clone_any bs a0 c0 w2.heap.size w2 HbW.out (Nat.le_refl _) hc0 (by omega)).mono ?_
  rintro e w3 ⟨v3, rfl, hO3, hB3⟩
  have hz3 := hB3.size
  have HO3 : Hid (Owns w3 w2.heap.size v3 bs) := hO3
  have HB3 : Hid (Below w2.heap.size w2 w3) := hB3
  clear hO3 hB3
  go_wp2_with fail
  refine (mpint_any w2.heap.size v3 bs (some ⟨w.heap.size, 0, none⟩) ns.length ns w3 HO3.out hz3 (HnW.out.later HB3.out (Nat.le_refl _)) (by intro h; cases h) (by omega) (by unfold maxLen; omega) hB (by omega) (by omega)).mono ?_
  rintro e w4 ⟨v4, rfl, hO4, hB4⟩
  have hlen : (bs ++ be32 (body ns).length ++ body ns).length = bs.length + 4 + (body ns).length := by simp [be32]; omega
  obtain ⟨g4, cap4, rfl, hL4, hC4, hR4⟩ := hO4.shape (by omega)
  have HR4 : Hid (Rd w4 w4.heap.size (some ⟨g4, 0, none⟩) (bs ++ be32 (body ns).length ++ body ns)) := hR4
  have HB4 : Hid (Below w2.heap.size w2 w4) := HB3.out.trans hB4
  have hz4 : w2.heap.size ≤ w4.heap.size := HB4.out.size
  have HM4 : Hid (Rd w4 w4.heap.size (if cap4 = bs.length + 4 then some ⟨g4, 0, none⟩ else some ⟨g4, bs.length + 4, none⟩) (body ns)) := by
    have := Rd_drop (k := bs.length + 4) hR4 hL4
    rw [List.drop_left' (by simp [be32])] at this
    exact this
  have HBB : Hid (body (body ns) = body ns) := body_body ns
  have HBY : Hid (Byt (body ns)) := body_byt ns hB
  have HLW : Hid (∀ k, 1 ≤ k → low (body ns) k = low ns k) := low_body ns
  have hbl : (body ns).length ≤ ns.length + 1 := body_len ns
  rw [hlen] at hL4 ⊢
  obtain ⟨out, hout⟩ : ∃ out, out = bs ++ be32 (body ns).length ++ body ns := ⟨_, rfl⟩
  have HOUT : Hid (out = bs ++ be32 (body ns).length ++ body ns) := hout
  have hol : out.length = bs.length + 4 + (body ns).length := by rw [hout]; exact hlen
  have HOL : Hid (out.length = bs.length + 4 + (body ns).length) := hol
  rw [← hout] at HR4
  clear hO4 hB4 hR4 HO3 HB3 hlen hout hol
  generalize hm : body ns = m at *
  clear hm
  have HMX : ∀ X : Nat, (if cap4 = bs.length + 4 then (some ⟨g4, 0, none⟩ : Option Addr) else some ⟨g4, bs.length + 4, none⟩) = some ⟨g4, X, none⟩ → Hid (Rd w4 w4.heap.size (some ⟨g4, X, none⟩) m) := fun X h => by rw [← h]; exact HM4.out
  have HMX' : Hid (∀ X : Nat, (if cap4 = bs.length + 4 then (some ⟨g4, 0, none⟩ : Option Addr) else some ⟨g4, bs.length + 4, none⟩) = some ⟨g4, X, none⟩ → Hid (Rd w4 w4.heap.size (some ⟨g4, X, none⟩) m)) := HMX
  clear HMX HM4
  go_wp2_with fail
  · have HM : Hid (Rd w4 w4.heap.size (some ⟨g4, 0, none⟩) m) := HMX'.out 0 (by simp [*])
    clear HMX'
    refine (clone_any bs a0 c0 w4.heap.size w4 ((HbW.out.later HB4.out (Nat.le_refl _)).mono hz4) (Nat.le_refl _) hc0 (by omega)).mono ?_
    rintro e w5 ⟨v5, rfl, hO5, hB5⟩
    have hz5 := hB5.size
    have HO5 : Hid (Owns w5 w4.heap.size v5 bs) := hO5
    have HB5 : Hid (Below w4.heap.size w4 w5) := hB5
    clear hO5 hB5
    go_wp2_with fail
    refine (string_any w4.heap.size v5 bs _ _ m w5 HO5.out hz5 (HM.out.later HB5.out (Nat.le_refl _)) (by intro h; cases h) (by omega) (by omega)).mono ?_
    rintro e w6 ⟨v6, rfl, hO6, hB6⟩
    rw [← HOUT.out] at hO6
    obtain ⟨g6, cap6, rfl, hL6, hC6, hR6⟩ := hO6.shape (by rw [HOL.out]; omega)
    have HR6 : Hid (Rd w6 w6.heap.size (some ⟨g6, 0, none⟩) out) := hR6
    have HB6 : Hid (Below w4.heap.size w4 w6) := HB5.out.trans hB6
    have hz6 : w4.heap.size ≤ w6.heap.size := HB6.out.size
    clear hO6 hB6 hR6 hL6 hC6
    rw [← HOL.out]
    go_wp2_with fail
    refine (eqb_any out out _ _ _ _ _ _ w6 (by rw [HOL.out]; omega) HR6.out (HR4.out.later HB6.out (Nat.le_refl _))).mono ?_
    rintro e w7 ⟨rfl, nq, rfl⟩
    rw [decide_eq_true rfl]
    have HB7 : Hid (Below w4.heap.size w4 (w6.drewN nq)) := below_drewN HB6.out nq
    have hz7 : w4.heap.size ≤ (w6.drewN nq).heap.size := hz6
    generalize w6.drewN nq = w7 at *
    clear HR6 HB6 hz6 HO5 HB5 hz5
    go_wp2_with fail
    refine (clone_any bs a0 c0 w7.heap.size w7 ((HbW.out.later (HB4.out.trans (HB7.out.mono hz4)) (Nat.le_refl _)).mono (Nat.le_trans hz4 hz7)) (Nat.le_refl _) hc0 (by omega)).mono ?_
    rintro e w8 ⟨v8, rfl, hO8, hB8⟩
    have hz8 := hB8.size
    have HO8 : Hid (Owns w8 w7.heap.size v8 bs) := hO8
    have HB8 : Hid (Below w7.heap.size w7 w8) := hB8
    clear hO8 hB8
    go_wp2_with fail
    refine (mpint_any w7.heap.size v8 bs _ _ m w8 HO8.out hz8 (((HM.out.later HB7.out (Nat.le_refl _)).mono hz7).later HB8.out (Nat.le_refl _)) (by intro h; cases h) (by omega) (by unfold maxLen; omega) HBY.out (by omega) (by omega)).mono ?_
    rintro e w9 ⟨v9, rfl, hO9, hB9⟩
    rw [HBB.out, ← HOUT.out] at hO9
    obtain ⟨g9, cap9, rfl, hL9, hC9, hR9⟩ := hO9.shape (by rw [HOL.out]; omega)
    have HR9 : Hid (Rd w9 w9.heap.size (some ⟨g9, 0, none⟩) out) := hR9
    have HB9 : Hid (Below w7.heap.size w7 w9) := HB8.out.trans hB9
    have hz9 : w7.heap.size ≤ w9.heap.size := HB9.out.size
    have HB49 : Hid (Below w4.heap.size w4 w9) := HB7.out.trans (HB9.out.mono hz7)
    clear hO9 hB9 hR9 hL9 hC9
    go_wp2_with fail
    refine (eqb_any out out _ _ _ _ _ _ w9 (by rw [HOL.out]; omega) HR9.out (HR4.out.later HB49.out (Nat.le_refl _))).mono ?_
    rintro e w10 ⟨rfl, nq2, rfl⟩
    rw [decide_eq_true rfl]
    have HB410 : Hid (Below w4.heap.size w4 (w9.drewN nq2)) := below_drewN HB49.out nq2
    generalize w9.drewN nq2 = w10 at *
    clear HR9 HB9 hz9 HO8 HB8 hz8 HB49
    have HBW10 : Hid (Below w2.heap.size w2 w10) := HB4.out.trans (HB410.out.mono hz4)
    have HFIN : Hid (Below w.heap.size w w10) := HB2.out.trans (HBW10.out.mono HB2.out.size)
    go_wp2_with fail
    refine (same_any m ns _ _ _ _ _ _ w10 (by omega) (by omega) (HM.out.later HB410.out (Nat.le_refl _)) (HnW.out.later HBW10.out (Nat.le_refl _)) HLW.out).mono ?_
    rintro e w11 ⟨rfl, rfl⟩
    go_wp2_with fail
    go_ret
    exact ⟨rfl, HFIN.out⟩
  · have HM : Hid (Rd w4 w4.heap.size (some ⟨g4, bs.length + 4, none⟩) m) := HMX'.out (bs.length + 4) (by simp [*])
    clear HMX'
    refine (clone_any bs a0 c0 w4.heap.size w4 ((HbW.out.later HB4.out (Nat.le_refl _)).mono hz4) (Nat.le_refl _) hc0 (by omega)).mono ?_
    rintro e w5 ⟨v5, rfl, hO5, hB5⟩
    have hz5 := hB5.size
    have HO5 : Hid (Owns w5 w4.heap.size v5 bs) := hO5
    have HB5 : Hid (Below w4.heap.size w4 w5) := hB5
    clear hO5 hB5
    go_wp2_with fail
    refine (string_any w4.heap.size v5 bs _ _ m w5 HO5.out hz5 (HM.out.later HB5.out (Nat.le_refl _)) (by intro h; cases h) (by omega) (by omega)).mono ?_
    rintro e w6 ⟨v6, rfl, hO6, hB6⟩
    rw [← HOUT.out] at hO6
    obtain ⟨g6, cap6, rfl, hL6, hC6, hR6⟩ := hO6.shape (by rw [HOL.out]; omega)
    have HR6 : Hid (Rd w6 w6.heap.size (some ⟨g6, 0, none⟩) out) := hR6
    have HB6 : Hid (Below w4.heap.size w4 w6) := HB5.out.trans hB6
    have hz6 : w4.heap.size ≤ w6.heap.size := HB6.out.size
    clear hO6 hB6 hR6 hL6 hC6
    rw [← HOL.out]
    go_wp2_with fail
    refine (eqb_any out out _ _ _ _ _ _ w6 (by rw [HOL.out]; omega) HR6.out (HR4.out.later HB6.out (Nat.le_refl _))).mono ?_
    rintro e w7 ⟨rfl, nq, rfl⟩
    rw [decide_eq_true rfl]
    have HB7 : Hid (Below w4.heap.size w4 (w6.drewN nq)) := below_drewN HB6.out nq
    have hz7 : w4.heap.size ≤ (w6.drewN nq).heap.size := hz6
    generalize w6.drewN nq = w7 at *
    clear HR6 HB6 hz6 HO5 HB5 hz5
    go_wp2_with fail
    refine (clone_any bs a0 c0 w7.heap.size w7 ((HbW.out.later (HB4.out.trans (HB7.out.mono hz4)) (Nat.le_refl _)).mono (Nat.le_trans hz4 hz7)) (Nat.le_refl _) hc0 (by omega)).mono ?_
    rintro e w8 ⟨v8, rfl, hO8, hB8⟩
    have hz8 := hB8.size
    have HO8 : Hid (Owns w8 w7.heap.size v8 bs) := hO8
    have HB8 : Hid (Below w7.heap.size w7 w8) := hB8
    clear hO8 hB8
    go_wp2_with fail
    refine (mpint_any w7.heap.size v8 bs _ _ m w8 HO8.out hz8 (((HM.out.later HB7.out (Nat.le_refl _)).mono hz7).later HB8.out (Nat.le_refl _)) (by intro h; cases h) (by omega) (by unfold maxLen; omega) HBY.out (by omega) (by omega)).mono ?_
    rintro e w9 ⟨v9, rfl, hO9, hB9⟩
    rw [HBB.out, ← HOUT.out] at hO9
    obtain ⟨g9, cap9, rfl, hL9, hC9, hR9⟩ := hO9.shape (by rw [HOL.out]; omega)
    have HR9 : Hid (Rd w9 w9.heap.size (some ⟨g9, 0, none⟩) out) := hR9
    have HB9 : Hid (Below w7.heap.size w7 w9) := HB8.out.trans hB9
    have hz9 : w7.heap.size ≤ w9.heap.size := HB9.out.size
    have HB49 : Hid (Below w4.heap.size w4 w9) := HB7.out.trans (HB9.out.mono hz7)
    clear hO9 hB9 hR9 hL9 hC9
    go_wp2_with fail
    refine (eqb_any out out _ _ _ _ _ _ w9 (by rw [HOL.out]; omega) HR9.out (HR4.out.later HB49.out (Nat.le_refl _))).mono ?_
    rintro e w10 ⟨rfl, nq2, rfl⟩
    rw [decide_eq_true rfl]
    have HB410 : Hid (Below w4.heap.size w4 (w9.drewN nq2)) := below_drewN HB49.out nq2
    generalize w9.drewN nq2 = w10 at *
    clear HR9 HB9 hz9 HO8 HB8 hz8 HB49
    have HBW10 : Hid (Below w2.heap.size w2 w10) := HB4.out.trans (HB410.out.mono hz4)
    have HFIN : Hid (Below w.heap.size w w10) := HB2.out.trans (HBW10.out.mono HB2.out.size)
    go_wp2_with fail
    refine (same_any m ns _ _ _ _ _ _ w10 (by omega) (by omega) (HM.out.later HB410.out (Nat.le_refl _)) (HnW.out.later HBW10.out (Nat.le_refl _)) HLW.out).mono ?_
    rintro e w11 ⟨rfl, rfl⟩
    go_wp2_with fail
    go_ret
    exact ⟨rfl, HFIN.out⟩
set_option maxHeartbeats 1000000 in
theorem law4_nil (bs : List Int) (a0 : Option Addr) (c0 : Nat) (w : World) (hb : Rd w w.heap.size a0 bs) (hc0 : a0 = none → c0 = 0) (hlb : bs.length ≤ 524288) :
    Calls Try.prog 4 #[.slice a0 bs.length c0, .slice none 0 0] w fun e w' => e = .returned (.bool true) ∧ Below w.heap.size w w' := by
  have hne := fun wx : World => run_neq_slice_nil_any (P := Try.prog) wx 22 5 none 0 0 0 0 Try.underlying22
  have h1 : ¬ (524288 : Int) < bs.length := by omega
  have HbW : Hid (Rd w w.heap.size a0 bs) := hb
  have HnW : Hid (Rd w w.heap.size none []) := .inl rfl
  have HBW : Hid (Below w.heap.size w w) := Below.refl _ _
  have hB : Byt [] := fun z hz => by simp at hz
  clear hb
  go_enter Try.func4, Try.ntmps4
  go_wp2_with (go_at_call 13; refine (b13_ok _ _ _ _ _ _ _ (by omega)).mono ?_; rintro e w' ⟨rfl, rfl⟩)
  clear hne
  -- the call of cloneBytes in the world W; n is the slice none
  refine (clone_any bs a0 c0 w.heap.size w HbW.out (Nat.le_refl _) hc0 (by omega)).mono ?_
  rintro e w3 ⟨v3, rfl, hO3, hB3⟩
  have hz3 := hB3.size
  have HO3 : Hid (Owns w3 w.heap.size v3 bs) := hO3
  have HB3 : Hid (Below w.heap.size w w3) := hB3
  clear hO3 hB3
  go_wp2_with fail
  refine (mpint_any w.heap.size v3 bs none 0 ([] : List Int) w3 HO3.out hz3 (HnW.out.later HB3.out (Nat.le_refl _)) (fun _ => rfl) (by simp) (by unfold maxLen; omega) hB (by omega) (by simp)).mono ?_
  rintro e w4 ⟨v4, rfl, hO4, hB4⟩
  have hlen : (bs ++ be32 (body ([] : List Int)).length ++ body ([] : List Int)).length = bs.length + 4 + (body ([] : List Int)).length := by simp [be32]; omega
  obtain ⟨g4, cap4, rfl, hL4, hC4, hR4⟩ := hO4.shape (by omega)
  have HR4 : Hid (Rd w4 w4.heap.size (some ⟨g4, 0, none⟩) (bs ++ be32 (body ([] : List Int)).length ++ body ([] : List Int))) := hR4
  have HB4 : Hid (Below w.heap.size w w4) := HB3.out.trans hB4
  have hz4 : w.heap.size ≤ w4.heap.size := HB4.out.size
  have HM4 : Hid (Rd w4 w4.heap.size (if cap4 = bs.length + 4 then some ⟨g4, 0, none⟩ else some ⟨g4, bs.length + 4, none⟩) (body ([] : List Int))) := by
    have := Rd_drop (k := bs.length + 4) hR4 hL4
    rw [List.drop_left' (by simp [be32])] at this
    exact this
  have HBB : Hid (body (body ([] : List Int)) = body ([] : List Int)) := body_body ([] : List Int)
  have HBY : Hid (Byt (body ([] : List Int))) := body_byt ([] : List Int) hB
  have HLW : Hid (∀ k, 1 ≤ k → low (body ([] : List Int)) k = low ([] : List Int) k) := low_body ([] : List Int)
  have hbl : (body ([] : List Int)).length ≤ 0 + 1 := body_len ([] : List Int)
  rw [hlen] at hL4 ⊢
  obtain ⟨out, hout⟩ : ∃ out, out = bs ++ be32 (body ([] : List Int)).length ++ body ([] : List Int) := ⟨_, rfl⟩
  have HOUT : Hid (out = bs ++ be32 (body ([] : List Int)).length ++ body ([] : List Int)) := hout
  have hol : out.length = bs.length + 4 + (body ([] : List Int)).length := by rw [hout]; exact hlen
  have HOL : Hid (out.length = bs.length + 4 + (body ([] : List Int)).length) := hol
  rw [← hout] at HR4
  clear hO4 hB4 hR4 HO3 HB3 hlen hout hol
  generalize hm : body ([] : List Int) = m at *
  clear hm
  have HMX : ∀ X : Nat, (if cap4 = bs.length + 4 then (some ⟨g4, 0, none⟩ : Option Addr) else some ⟨g4, bs.length + 4, none⟩) = some ⟨g4, X, none⟩ → Hid (Rd w4 w4.heap.size (some ⟨g4, X, none⟩) m) := fun X h => by rw [← h]; exact HM4.out
  have HMX' : Hid (∀ X : Nat, (if cap4 = bs.length + 4 then (some ⟨g4, 0, none⟩ : Option Addr) else some ⟨g4, bs.length + 4, none⟩) = some ⟨g4, X, none⟩ → Hid (Rd w4 w4.heap.size (some ⟨g4, X, none⟩) m)) := HMX
  clear HMX HM4
  go_wp2_with fail
  · have HM : Hid (Rd w4 w4.heap.size (some ⟨g4, 0, none⟩) m) := HMX'.out 0 (by simp [*])
    clear HMX'
    refine (clone_any bs a0 c0 w4.heap.size w4 ((HbW.out.later HB4.out (Nat.le_refl _)).mono hz4) (Nat.le_refl _) hc0 (by omega)).mono ?_
    rintro e w5 ⟨v5, rfl, hO5, hB5⟩
    have hz5 := hB5.size
    have HO5 : Hid (Owns w5 w4.heap.size v5 bs) := hO5
    have HB5 : Hid (Below w4.heap.size w4 w5) := hB5
    clear hO5 hB5
    go_wp2_with fail
    refine (string_any w4.heap.size v5 bs _ _ m w5 HO5.out hz5 (HM.out.later HB5.out (Nat.le_refl _)) (by intro h; cases h) (by omega) (by omega)).mono ?_
    rintro e w6 ⟨v6, rfl, hO6, hB6⟩
    rw [← HOUT.out] at hO6
    obtain ⟨g6, cap6, rfl, hL6, hC6, hR6⟩ := hO6.shape (by rw [HOL.out]; omega)
    have HR6 : Hid (Rd w6 w6.heap.size (some ⟨g6, 0, none⟩) out) := hR6
    have HB6 : Hid (Below w4.heap.size w4 w6) := HB5.out.trans hB6
    have hz6 : w4.heap.size ≤ w6.heap.size := HB6.out.size
    clear hO6 hB6 hR6 hL6 hC6
    rw [← HOL.out]
    go_wp2_with fail
    refine (eqb_any out out _ _ _ _ _ _ w6 (by rw [HOL.out]; omega) HR6.out (HR4.out.later HB6.out (Nat.le_refl _))).mono ?_
    rintro e w7 ⟨rfl, nq, rfl⟩
    rw [decide_eq_true rfl]
    have HB7 : Hid (Below w4.heap.size w4 (w6.drewN nq)) := below_drewN HB6.out nq
    have hz7 : w4.heap.size ≤ (w6.drewN nq).heap.size := hz6
    generalize w6.drewN nq = w7 at *
    clear HR6 HB6 hz6 HO5 HB5 hz5
    go_wp2_with fail
    refine (clone_any bs a0 c0 w7.heap.size w7 ((HbW.out.later (HB4.out.trans (HB7.out.mono hz4)) (Nat.le_refl _)).mono (Nat.le_trans hz4 hz7)) (Nat.le_refl _) hc0 (by omega)).mono ?_
    rintro e w8 ⟨v8, rfl, hO8, hB8⟩
    have hz8 := hB8.size
    have HO8 : Hid (Owns w8 w7.heap.size v8 bs) := hO8
    have HB8 : Hid (Below w7.heap.size w7 w8) := hB8
    clear hO8 hB8
    go_wp2_with fail
    refine (mpint_any w7.heap.size v8 bs _ _ m w8 HO8.out hz8 (((HM.out.later HB7.out (Nat.le_refl _)).mono hz7).later HB8.out (Nat.le_refl _)) (by intro h; cases h) (by omega) (by unfold maxLen; omega) HBY.out (by omega) (by omega)).mono ?_
    rintro e w9 ⟨v9, rfl, hO9, hB9⟩
    rw [HBB.out, ← HOUT.out] at hO9
    obtain ⟨g9, cap9, rfl, hL9, hC9, hR9⟩ := hO9.shape (by rw [HOL.out]; omega)
    have HR9 : Hid (Rd w9 w9.heap.size (some ⟨g9, 0, none⟩) out) := hR9
    have HB9 : Hid (Below w7.heap.size w7 w9) := HB8.out.trans hB9
    have hz9 : w7.heap.size ≤ w9.heap.size := HB9.out.size
    have HB49 : Hid (Below w4.heap.size w4 w9) := HB7.out.trans (HB9.out.mono hz7)
    clear hO9 hB9 hR9 hL9 hC9
    go_wp2_with fail
    refine (eqb_any out out _ _ _ _ _ _ w9 (by rw [HOL.out]; omega) HR9.out (HR4.out.later HB49.out (Nat.le_refl _))).mono ?_
    rintro e w10 ⟨rfl, nq2, rfl⟩
    rw [decide_eq_true rfl]
    have HB410 : Hid (Below w4.heap.size w4 (w9.drewN nq2)) := below_drewN HB49.out nq2
    generalize w9.drewN nq2 = w10 at *
    clear HR9 HB9 hz9 HO8 HB8 hz8 HB49
    have HBW10 : Hid (Below w.heap.size w w10) := HB4.out.trans (HB410.out.mono hz4)
    have HFIN : Hid (Below w.heap.size w w10) := HBW.out.trans (HBW10.out.mono HBW.out.size)
    go_wp2_with fail
    refine (same_any m ([] : List Int) _ _ _ _ _ _ w10 (by omega) (by simp) (HM.out.later HB410.out (Nat.le_refl _)) (HnW.out.later HBW10.out (Nat.le_refl _)) HLW.out).mono ?_
    rintro e w11 ⟨rfl, rfl⟩
    go_wp2_with fail
    go_ret
    exact ⟨rfl, HFIN.out⟩
  · have HM : Hid (Rd w4 w4.heap.size (some ⟨g4, bs.length + 4, none⟩) m) := HMX'.out (bs.length + 4) (by simp [*])
    clear HMX'
    refine (clone_any bs a0 c0 w4.heap.size w4 ((HbW.out.later HB4.out (Nat.le_refl _)).mono hz4) (Nat.le_refl _) hc0 (by omega)).mono ?_
    rintro e w5 ⟨v5, rfl, hO5, hB5⟩
    have hz5 := hB5.size
    have HO5 : Hid (Owns w5 w4.heap.size v5 bs) := hO5
    have HB5 : Hid (Below w4.heap.size w4 w5) := hB5
    clear hO5 hB5
    go_wp2_with fail
    refine (string_any w4.heap.size v5 bs _ _ m w5 HO5.out hz5 (HM.out.later HB5.out (Nat.le_refl _)) (by intro h; cases h) (by omega) (by omega)).mono ?_
    rintro e w6 ⟨v6, rfl, hO6, hB6⟩
    rw [← HOUT.out] at hO6
    obtain ⟨g6, cap6, rfl, hL6, hC6, hR6⟩ := hO6.shape (by rw [HOL.out]; omega)
    have HR6 : Hid (Rd w6 w6.heap.size (some ⟨g6, 0, none⟩) out) := hR6
    have HB6 : Hid (Below w4.heap.size w4 w6) := HB5.out.trans hB6
    have hz6 : w4.heap.size ≤ w6.heap.size := HB6.out.size
    clear hO6 hB6 hR6 hL6 hC6
    rw [← HOL.out]
    go_wp2_with fail
    refine (eqb_any out out _ _ _ _ _ _ w6 (by rw [HOL.out]; omega) HR6.out (HR4.out.later HB6.out (Nat.le_refl _))).mono ?_
    rintro e w7 ⟨rfl, nq, rfl⟩
    rw [decide_eq_true rfl]
    have HB7 : Hid (Below w4.heap.size w4 (w6.drewN nq)) := below_drewN HB6.out nq
    have hz7 : w4.heap.size ≤ (w6.drewN nq).heap.size := hz6
    generalize w6.drewN nq = w7 at *
    clear HR6 HB6 hz6 HO5 HB5 hz5
    go_wp2_with fail
    refine (clone_any bs a0 c0 w7.heap.size w7 ((HbW.out.later (HB4.out.trans (HB7.out.mono hz4)) (Nat.le_refl _)).mono (Nat.le_trans hz4 hz7)) (Nat.le_refl _) hc0 (by omega)).mono ?_
    rintro e w8 ⟨v8, rfl, hO8, hB8⟩
    have hz8 := hB8.size
    have HO8 : Hid (Owns w8 w7.heap.size v8 bs) := hO8
    have HB8 : Hid (Below w7.heap.size w7 w8) := hB8
    clear hO8 hB8
    go_wp2_with fail
    refine (mpint_any w7.heap.size v8 bs _ _ m w8 HO8.out hz8 (((HM.out.later HB7.out (Nat.le_refl _)).mono hz7).later HB8.out (Nat.le_refl _)) (by intro h; cases h) (by omega) (by unfold maxLen; omega) HBY.out (by omega) (by omega)).mono ?_
    rintro e w9 ⟨v9, rfl, hO9, hB9⟩
    rw [HBB.out, ← HOUT.out] at hO9
    obtain ⟨g9, cap9, rfl, hL9, hC9, hR9⟩ := hO9.shape (by rw [HOL.out]; omega)
    have HR9 : Hid (Rd w9 w9.heap.size (some ⟨g9, 0, none⟩) out) := hR9
    have HB9 : Hid (Below w7.heap.size w7 w9) := HB8.out.trans hB9
    have hz9 : w7.heap.size ≤ w9.heap.size := HB9.out.size
    have HB49 : Hid (Below w4.heap.size w4 w9) := HB7.out.trans (HB9.out.mono hz7)
    clear hO9 hB9 hR9 hL9 hC9
    go_wp2_with fail
    refine (eqb_any out out _ _ _ _ _ _ w9 (by rw [HOL.out]; omega) HR9.out (HR4.out.later HB49.out (Nat.le_refl _))).mono ?_
    rintro e w10 ⟨rfl, nq2, rfl⟩
    rw [decide_eq_true rfl]
    have HB410 : Hid (Below w4.heap.size w4 (w9.drewN nq2)) := below_drewN HB49.out nq2
    generalize w9.drewN nq2 = w10 at *
    clear HR9 HB9 hz9 HO8 HB8 hz8 HB49
    have HBW10 : Hid (Below w.heap.size w w10) := HB4.out.trans (HB410.out.mono hz4)
    have HFIN : Hid (Below w.heap.size w w10) := HBW.out.trans (HBW10.out.mono HBW.out.size)
    go_wp2_with fail
    refine (same_any m ([] : List Int) _ _ _ _ _ _ w10 (by omega) (by simp) (HM.out.later HB410.out (Nat.le_refl _)) (HnW.out.later HBW10.out (Nat.le_refl _)) HLW.out).mono ?_
    rintro e w11 ⟨rfl, rfl⟩
    go_wp2_with fail
    go_ret
    exact ⟨rfl, HFIN.out⟩
end Go.Proofs.Qxb6628551a

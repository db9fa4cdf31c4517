import Derived.Test.Qxb6628551aMore
import Derived.Test.Qxb6628551aLaw4
namespace Go.Proofs.Qxb6628551a
open Go.ChangeShapes Go.WideShapes Go.ChangeAt Go.RowKit

theorem strip_drop : ∀ (i : Nat) (ns : List Int), i ≤ ns.length → (∀ j, j < i → ns[j]? = some 0) → strip (ns.drop i) = strip ns
  | 0, _, _, _ => rfl
  | i + 1, [], h, _ => by simp at h
  | i + 1, z :: t, h, hz => by
    have h0 := hz 0 (by omega)
    simp at h0
    subst h0
    rw [List.drop_succ_cons, strip_drop i t (by simpa using h) (fun j hj => by have := hz (j + 1) (by omega); simpa using this)]
    rw [strip, if_pos rfl]
theorem body_drop (i : Nat) (ns : List Int) (h : i ≤ ns.length) (hz : ∀ j, j < i → ns[j]? = some 0) : body (ns.drop i) = body ns := by
  unfold body; rw [strip_drop i ns h hz]

theorem b5_ok (a0 a1 : Option Addr) (n m c0 c1 : Nat) (i : Int) (w : World) (h : n + m ≤ 1048576) :
    Calls Try.prog 5 #[.slice a0 n c0, .slice a1 m c1, .int .i64 i] w fun e w' => e = .returned (.bool true) ∧ w = w' := by
  have h1 : ¬ (1048576 : Int) < n := by omega
  have h2 : ¬ (1048576 : Int) < m := by omega
  have h3 : ¬ (1048576 : Int) < n + m := by omega
  go_enter Try.func5, Try.ntmps5
  go_wp2
  go_ret
  exact ⟨rfl, rfl⟩
theorem b5_no (a0 a1 : Option Addr) (n m c0 c1 : Nat) (i : Int) (w : World) (hn : n ≤ maxLen) (hm : m ≤ maxLen) (h : 1048576 < n + m) :
    Calls Try.prog 5 #[.slice a0 n c0, .slice a1 m c1, .int .i64 i] w fun e w' => e = .returned (.bool false) ∧ w = w' := by
  unfold maxLen at hn hm
  by_cases h1 : (1048576 : Int) < n
  · go_enter Try.func5, Try.ntmps5
    go_wp2
    go_ret
    exact ⟨rfl, rfl⟩
  by_cases h2 : (1048576 : Int) < m
  · go_enter Try.func5, Try.ntmps5
    go_wp2
    go_ret
    exact ⟨rfl, rfl⟩
  have h3 : (1048576 : Int) < n + m := by omega
  go_enter Try.func5, Try.ntmps5
  go_wp2
  go_ret
  exact ⟨rfl, rfl⟩

set_option maxHeartbeats 2000000 in
theorem law3_some (bs ns : List Int) (a0 : Option Addr) (c0 : Nat) (ad : Addr) (c1 : Nat) (i : Nat) (w : World) (hb : Rd w w.heap.size a0 bs) (hc0 : a0 = none → c0 = 0) (hn : Rd w w.heap.size (some ad) ns)
    (hlb : bs.length ≤ 524288) (hln : ns.length ≤ 524288) (hB : Byt ns) (hi : i ≤ ns.length) :
    Calls Try.prog 3 #[.slice a0 bs.length c0, .slice (some ad) ns.length c1, .int .i64 i] w fun e w' => e = .returned (.bool true) ∧ Below w.heap.size w w' := by
  obtain ⟨i0, hi0, hz0, hz1, hz2⟩ := info_parts Try.info5
  have hne := fun wx : World => run_neq_slice_nil_any (P := Try.prog) wx 22 5 (some ad) ns.length c1 0 0 Try.underlying22
  have h1 : ¬ (524288 : Int) < bs.length := by omega
  have h2 : ¬ (524288 : Int) < ns.length := by omega
  have h3 : ¬ (i : Int) < 0 := by omega
  have h4 : ¬ (ns.length : Int) < i := by omega
  have Hb : Hid (Rd w w.heap.size a0 bs) := hb
  have Hn : Hid (Rd w w.heap.size (some ad) ns) := hn
  clear hb hn
  go_enter Try.func3, Try.ntmps3
  go_wp2_with (first
    | (go_at_call 5; refine (b5_ok _ _ _ _ _ _ _ _ (by omega)).mono ?_; rintro e w' ⟨rfl, rfl⟩)
    | (at_make; refine wpList_make_full _ rfl _ _ 22 rfl w.heap.size 5 i0 (.int .u8 0) 1 Try.underlying22 hi0 hz0 hz1 _ _ _ _ ns.length rfl rfl (by first | rfl | omega) (by first | rfl | omega) (by rw [hz2]; omega) (by unfold maxLen; omega) (Nat.le_refl _) ?_; intro w1 hown hgrow
       have hB1 : Below w.heap.size w w1 := (Below.refl _ _).grown hgrow (Nat.le_refl _) (fun k hk => by cases hk)
       obtain ⟨w2, hcp, hO2, hB2⟩ := copy_run w.heap.size w.heap.size ns ad c1 _ w1 hown ((Hn.out.later hB1 (Nat.le_refl _)).news ad rfl)
       have HO2 : Hid (Owns w2 w.heap.size (.slice (some ⟨w.heap.size, 0, none⟩) ns.length ns.length) ns) := hO2
       have HBW : Hid (Below w.heap.size w w2) := hB1.trans hB2
       clear hown hgrow hB1 hO2 hB2))
  have HnW : Hid (Rd w2 w2.heap.size (some ⟨w.heap.size, 0, none⟩) ns) := by
    by_cases hp : 0 < ns.length
    · obtain ⟨g, cap, hv, _, _, hR⟩ := HO2.out.shape hp
      simp only [Value.slice.injEq, Option.some.injEq, Addr.mk.injEq, and_true, true_and] at hv
      obtain ⟨rfl, rfl⟩ := hv
      exact hR
    · exact .inl (List.eq_nil_of_length_eq_zero (by omega))
  have HbW : Hid (Rd w2 w2.heap.size a0 bs) := (Hb.out.later HBW.out (Nat.le_refl _)).mono HBW.out.size
  clear hne hcp Hb Hn HO2
  go_loop [8] (fun s => ∃ k : Nat, k ≤ i ∧ s = .int .i64 k ∧ Hid (∀ j, j < k → ns[j]? = some 0)) (fun s => i - (intOf s).toNat)
  case atStart => exact ⟨0, Nat.zero_le _, rfl, fun j hj => by omega⟩
  case round =>
    obtain ⟨k, hk, rfl, hZ⟩ := hrel
    by_cases hlt : k < i
    · have hlt' : (k : Int) < i := by omega
      have hlt2 : (k : Int) < ns.length := by omega
      obtain ⟨z, hz⟩ : ∃ z, ns[k]? = some z := ⟨_, List.getElem?_eq_getElem (by omega)⟩
      obtain ⟨g, off, hg, hc⟩ := HnW.out.at (by omega)
      simp only [Option.some.injEq, Addr.mk.injEq, and_true] at hg
      obtain ⟨rfl, rfl⟩ := hg
      have d1 : w2.cell? ⟨w.heap.size, k, none⟩ = some (.int .u8 z) := by have := hc k z hz; rw [Nat.zero_add] at this; exact this
      by_cases hz0 : z = 0
      · subst hz0
        have HZ2 : Hid (∀ j, j < k + 1 → ns[j]? = some 0) := fun j hj => by
          by_cases e : j = k
          · rw [e]; exact hz
          · exact hZ.out j (by omega)
        clear hc hz hZ
        go_wp2_with fail
        go_round
        case rel => exact ⟨k + 1, by omega, by go_num, HZ2⟩
        case measure => simp [intOf]; omega
      · have hzz : (z != 0) = true := by simpa using hz0
        clear hc hz hZ hz0
        go_wp2_with fail
        go_ret
        exact ⟨rfl, HBW.out⟩
    · have hlt' : ¬ (k : Int) < i := by omega
      obtain rfl : k = i := by omega
      have HDR : Hid (body (ns.drop k) = body ns) := body_drop k ns hi hZ.out
      clear hZ
      go_wp2_with fail
      refine (clone_any bs a0 c0 w2.heap.size w2 HbW.out (Nat.le_refl _) hc0 (by omega)).mono ?_
      rintro e w3 ⟨v3, rfl, hO3, hB3⟩
      have hz3 := hB3.size
      obtain ⟨ad3, cap3, rfl, hcap3, hR3⟩ := hO3.shape'
      have HR3 : Hid (Rd w3 w3.heap.size ad3 bs) := hR3
      have HB3 : Hid (Below w2.heap.size w2 w3) := hB3
      clear hO3 hB3 hR3 hcap3
      go_wp2_with fail
      refine (clone_any bs a0 c0 w2.heap.size w3 (HbW.out.later HB3.out (Nat.le_refl _)) hz3 hc0 (by omega)).mono ?_
      rintro e w4 ⟨v4, rfl, hO4, hB4⟩
      have hz4 := hB4.size
      have HO4 : Hid (Owns w4 w3.heap.size v4 bs) := hO4
      have HB4 : Hid (Below w3.heap.size w3 w4) := hB4
      clear hO4 hB4
      go_wp2_with fail
      refine (mpint_any w3.heap.size v4 bs (some ⟨w.heap.size, 0, none⟩) ns.length ns w4 HO4.out hz4 (((HnW.out.later HB3.out (Nat.le_refl _)).mono hz3).later HB4.out (Nat.le_refl _)) (by intro h; cases h) (by simp) (by unfold maxLen; omega) hB (by omega) (by omega)).mono ?_
      rintro e w5 ⟨v5, rfl, hO5, hB5⟩
      have HB5 : Hid (Below w3.heap.size w3 w5) := HB4.out.trans hB5
      have hz5 : w3.heap.size ≤ w5.heap.size := HB5.out.size
      have hbl : (body ns).length ≤ 524288 + 1 := Nat.le_trans (body_len ns) (by have := hln; omega)
      have HCA : Hid (Canon (body ns)) := body_canon ns hB
      have HBY : Hid (Byt (body ns)) := body_byt ns hB
      have HLW : Hid (∀ k, 1 ≤ k → low (body ns) k = low ns k) := low_body ns
      have hlen5 : (bs ++ be32 (body ns).length ++ body ns).length = bs.length + 4 + (body ns).length := by simp [be32]; omega
      obtain ⟨g5, cap5, rfl, hL5, hC5, hR5⟩ := hO5.shape (by omega)
      have HR5 : Hid (Rd w5 w5.heap.size (some ⟨g5, 0, none⟩) (bs ++ be32 (body ns).length ++ body ns)) := hR5
      clear hO5 hB5 hR5 HO4 HB4 hL5 hC5
      generalize hm : body ns = m at *
      clear hm
      obtain ⟨out2, hout2⟩ : ∃ out2, out2 = be32 m.length ++ m := ⟨_, rfl⟩
      have e5 : bs ++ be32 m.length ++ m = bs ++ out2 := by rw [hout2, List.append_assoc]
      have HE5 : Hid (bs ++ be32 m.length ++ m = bs ++ out2) := e5
      have HOUT : Hid (out2 = be32 m.length ++ m) := hout2
      have HOL : Hid (out2.length = 4 + m.length) := by show _ = _; rw [hout2]; simp [be32]; omega
      rw [e5] at HR5 hlen5 ⊢
      have HL5 : Hid ((bs ++ out2).length = bs.length + 4 + m.length) := hlen5
      clear e5 hout2 hlen5
      obtain ⟨out1, ho1⟩ : ∃ out1, out1 = bs ++ out2 := ⟨_, rfl⟩
      have HO1 : Hid (out1 = bs ++ out2) := ho1
      rw [← ho1] at HR5 HL5 ⊢
      clear ho1
      by_cases hki : ns.length = k
      · obtain rfl : k = ns.length := hki.symm
        rw [List.drop_length] at HDR
        go_wp2_with fail
        refine (mpint_any w5.heap.size (.slice none 0 0) [] (some ⟨w.heap.size, 0, none⟩) 0 [] w5 (World.ownsRow_nil _ _ _ _) (Nat.le_refl _) (.inl rfl) (by intro h; cases h) (by simp) (by unfold maxLen; omega) (fun z hz => by simp at hz) (by simp) (by simp)).mono ?_
        rintro e w6 ⟨v6, rfl, hO6, hB6⟩
        have HB6a : Hid (Below w5.heap.size w5 w6) := hB6
        have hz6 : w5.heap.size ≤ w6.heap.size := hB6.size
        rw [HDR.out, List.nil_append, ← HOUT.out] at hO6
        obtain ⟨g6, cap6, rfl, hL6, hC6, hR6⟩ := hO6.shape (by rw [HOL.out]; omega)
        have HR6 : Hid (Rd w6 w6.heap.size (some ⟨g6, 0, none⟩) out2) := hR6
        have hL6' : 4 + m.length ≤ cap6 := by rw [← HOL.out]; exact hL6
        clear hO6 hB6 hR6 hL6
        go_wp2_with fail
        refine (concat_any bs out2 ad3 _ cap3 _ w6 (((HR3.out.later HB5.out (Nat.le_refl _)).mono hz5).later HB6a.out (Nat.le_refl _) |>.mono hz6) HR6.out (by omega) (by rw [HOL.out]; omega)).mono ?_
        rintro e w7 ⟨v7, rfl, hO7, hB7⟩
        have HB7 : Hid (Below w6.heap.size w6 w7) := hB7
        have hz7 : w6.heap.size ≤ w7.heap.size := hB7.size
        rw [← HO1.out] at hO7
        obtain ⟨g7, cap7, rfl, hL7, hC7, hR7⟩ := hO7.shape (by rw [HL5.out]; omega)
        have HR7 : Hid (Rd w7 w7.heap.size (some ⟨g7, 0, none⟩) out1) := hR7
        clear hO7 hB7 hR7 hL7 hC7
        go_wp2_with fail
        refine (eqb_any out1 out1 _ _ _ _ _ _ w7 (by rw [HL5.out]; omega) ((HR5.out.later HB6a.out (Nat.le_refl _)).mono hz6 |>.later HB7.out (Nat.le_refl _)) HR7.out).mono ?_
        rintro e w8 ⟨rfl, nq, rfl⟩
        rw [decide_eq_true rfl]
        have HB8 : Hid (Below w6.heap.size w6 (w7.drewN nq)) := below_drewN HB7.out nq
        have hz8 : w6.heap.size ≤ (w7.drewN nq).heap.size := hz7
        generalize w7.drewN nq = w8 at *
        clear HR7 HB7 hz7
        have HM6 : Hid (∀ X : Nat, (if cap6 = 4 then (some ⟨g6, 0, none⟩ : Option Addr) else some ⟨g6, 4, none⟩) = some ⟨g6, X, none⟩ → Rd w6 w6.heap.size (some ⟨g6, X, none⟩) m) := fun X h => by
          have := Rd_drop (k := 4) HR6.out (c := cap6) (by rw [HOL.out]; exact hL6')
          rw [HOUT.out, List.drop_left' (by simp [be32])] at this
          rw [← h]; exact this
        have HR8 : Hid (Rd w8 w8.heap.size (some ⟨g6, 0, none⟩) (be32 m.length ++ m)) := by
          rw [← HOUT.out]; exact (HR6.out.later HB8.out (Nat.le_refl _)).mono hz8
        have HBALL : Hid (Below w.heap.size w w8) := HBW.out.trans (((HB3.out.trans ((HB5.out.trans ((HB6a.out.trans (HB8.out.mono hz6)).mono hz5)).mono hz3))).mono HBW.out.size)
        have HBN : Hid (Below w2.heap.size w2 w8) := HB3.out.trans ((HB5.out.trans ((HB6a.out.trans (HB8.out.mono hz6)).mono hz5)).mono hz3)
        rw [HOL.out]
        go_wp2_with fail
        · have HX : Hid (Rd w8 w6.heap.size (some ⟨g6, 0, none⟩) m) := (HM6.out 0 (by simp [*])).later HB8.out (Nat.le_refl _)
          clear HM6
          refine (read_any m.length m g6 _ w8 (by omega) (by omega) HR8.out (by omega)).mono ?_
          rintro e w9 ⟨rfl, nq2, rfl⟩
          have HX9 : Hid (Rd (w8.drewN nq2) w6.heap.size _ m) := HX.out.later (below_drewN (Below.refl w6.heap.size w8) nq2) (Nat.le_refl _)
          have HN9 : Hid (Rd (w8.drewN nq2) w2.heap.size (some ⟨w.heap.size, 0, none⟩) ns) := (HnW.out.later HBN.out (Nat.le_refl _)).later (below_drewN (Below.refl w2.heap.size w8) nq2) (Nat.le_refl _)
          have HB9 : Hid (Below w.heap.size w (w8.drewN nq2)) := below_drewN HBALL.out nq2
          generalize w8.drewN nq2 = w9 at *
          go_wp2_with fail
          refine (canon_any m _ _ _ w9 HX9.out HCA.out HBY.out (by omega)).mono ?_
          rintro e w10 ⟨rfl, rfl⟩
          go_wp2_with fail
          refine (same_any m ns _ _ _ _ _ _ w9 (by omega) (by omega) HX9.out HN9.out HLW.out).mono ?_
          rintro e w10 ⟨rfl, rfl⟩
          go_wp2_with fail
          go_ret
          exact ⟨rfl, HB9.out⟩
        · have HX : Hid (Rd w8 w6.heap.size (some ⟨g6, 4, none⟩) m) := (HM6.out 4 (by simp [*])).later HB8.out (Nat.le_refl _)
          clear HM6
          refine (read_any m.length m g6 _ w8 (by omega) (by omega) HR8.out (by omega)).mono ?_
          rintro e w9 ⟨rfl, nq2, rfl⟩
          have HX9 : Hid (Rd (w8.drewN nq2) w6.heap.size _ m) := HX.out.later (below_drewN (Below.refl w6.heap.size w8) nq2) (Nat.le_refl _)
          have HN9 : Hid (Rd (w8.drewN nq2) w2.heap.size (some ⟨w.heap.size, 0, none⟩) ns) := (HnW.out.later HBN.out (Nat.le_refl _)).later (below_drewN (Below.refl w2.heap.size w8) nq2) (Nat.le_refl _)
          have HB9 : Hid (Below w.heap.size w (w8.drewN nq2)) := below_drewN HBALL.out nq2
          generalize w8.drewN nq2 = w9 at *
          go_wp2_with fail
          refine (canon_any m _ _ _ w9 HX9.out HCA.out HBY.out (by omega)).mono ?_
          rintro e w10 ⟨rfl, rfl⟩
          go_wp2_with fail
          refine (same_any m ns _ _ _ _ _ _ w9 (by omega) (by omega) HX9.out HN9.out HLW.out).mono ?_
          rintro e w10 ⟨rfl, rfl⟩
          go_wp2_with fail
          go_ret
          exact ⟨rfl, HB9.out⟩
      · have HHD : Hid ((ns.drop k).length = ns.length - k) := List.length_drop
        have HD : Hid (Rd w5 w5.heap.size (some ⟨w.heap.size, k, none⟩) (ns.drop k)) := by
          have := Rd_drop (k := k) (((HnW.out.later HB3.out (Nat.le_refl _)).mono hz3).later HB5.out (Nat.le_refl _) |>.mono hz5) (Nat.le_refl _)
          rw [if_neg hki] at this
          exact this
        have HYD : Hid (Byt (ns.drop k)) := fun z hz => hB z (List.mem_of_mem_drop hz)
        go_wp2_with fail
        rw [← HHD.out]
        refine (mpint_any w5.heap.size (.slice none 0 0) [] _ _ (ns.drop k) w5 (World.ownsRow_nil _ _ _ _) (Nat.le_refl _) HD.out (by intro h; cases h) (by omega) (by rw [HHD.out]; unfold maxLen; omega) HYD.out (by simp) (by rw [HHD.out]; omega)).mono ?_
        rintro e w6 ⟨v6, rfl, hO6, hB6⟩
        have HB6a : Hid (Below w5.heap.size w5 w6) := hB6
        have hz6 : w5.heap.size ≤ w6.heap.size := hB6.size
        rw [HDR.out, List.nil_append, ← HOUT.out] at hO6
        obtain ⟨g6, cap6, rfl, hL6, hC6, hR6⟩ := hO6.shape (by rw [HOL.out]; omega)
        have HR6 : Hid (Rd w6 w6.heap.size (some ⟨g6, 0, none⟩) out2) := hR6
        have hL6' : 4 + m.length ≤ cap6 := by rw [← HOL.out]; exact hL6
        clear hO6 hB6 hR6 hL6
        go_wp2_with fail
        refine (concat_any bs out2 ad3 _ cap3 _ w6 (((HR3.out.later HB5.out (Nat.le_refl _)).mono hz5).later HB6a.out (Nat.le_refl _) |>.mono hz6) HR6.out (by omega) (by rw [HOL.out]; omega)).mono ?_
        rintro e w7 ⟨v7, rfl, hO7, hB7⟩
        have HB7 : Hid (Below w6.heap.size w6 w7) := hB7
        have hz7 : w6.heap.size ≤ w7.heap.size := hB7.size
        rw [← HO1.out] at hO7
        obtain ⟨g7, cap7, rfl, hL7, hC7, hR7⟩ := hO7.shape (by rw [HL5.out]; omega)
        have HR7 : Hid (Rd w7 w7.heap.size (some ⟨g7, 0, none⟩) out1) := hR7
        clear hO7 hB7 hR7 hL7 hC7
        go_wp2_with fail
        refine (eqb_any out1 out1 _ _ _ _ _ _ w7 (by rw [HL5.out]; omega) ((HR5.out.later HB6a.out (Nat.le_refl _)).mono hz6 |>.later HB7.out (Nat.le_refl _)) HR7.out).mono ?_
        rintro e w8 ⟨rfl, nq, rfl⟩
        rw [decide_eq_true rfl]
        have HB8 : Hid (Below w6.heap.size w6 (w7.drewN nq)) := below_drewN HB7.out nq
        have hz8 : w6.heap.size ≤ (w7.drewN nq).heap.size := hz7
        generalize w7.drewN nq = w8 at *
        clear HR7 HB7 hz7
        have HM6 : Hid (∀ X : Nat, (if cap6 = 4 then (some ⟨g6, 0, none⟩ : Option Addr) else some ⟨g6, 4, none⟩) = some ⟨g6, X, none⟩ → Rd w6 w6.heap.size (some ⟨g6, X, none⟩) m) := fun X h => by
          have := Rd_drop (k := 4) HR6.out (c := cap6) (by rw [HOL.out]; exact hL6')
          rw [HOUT.out, List.drop_left' (by simp [be32])] at this
          rw [← h]; exact this
        have HR8 : Hid (Rd w8 w8.heap.size (some ⟨g6, 0, none⟩) (be32 m.length ++ m)) := by
          rw [← HOUT.out]; exact (HR6.out.later HB8.out (Nat.le_refl _)).mono hz8
        have HBALL : Hid (Below w.heap.size w w8) := HBW.out.trans (((HB3.out.trans ((HB5.out.trans ((HB6a.out.trans (HB8.out.mono hz6)).mono hz5)).mono hz3))).mono HBW.out.size)
        have HBN : Hid (Below w2.heap.size w2 w8) := HB3.out.trans ((HB5.out.trans ((HB6a.out.trans (HB8.out.mono hz6)).mono hz5)).mono hz3)
        rw [HOL.out]
        go_wp2_with fail
        · have HX : Hid (Rd w8 w6.heap.size (some ⟨g6, 0, none⟩) m) := (HM6.out 0 (by simp [*])).later HB8.out (Nat.le_refl _)
          clear HM6
          refine (read_any m.length m g6 _ w8 (by omega) (by omega) HR8.out (by omega)).mono ?_
          rintro e w9 ⟨rfl, nq2, rfl⟩
          have HX9 : Hid (Rd (w8.drewN nq2) w6.heap.size _ m) := HX.out.later (below_drewN (Below.refl w6.heap.size w8) nq2) (Nat.le_refl _)
          have HN9 : Hid (Rd (w8.drewN nq2) w2.heap.size (some ⟨w.heap.size, 0, none⟩) ns) := (HnW.out.later HBN.out (Nat.le_refl _)).later (below_drewN (Below.refl w2.heap.size w8) nq2) (Nat.le_refl _)
          have HB9 : Hid (Below w.heap.size w (w8.drewN nq2)) := below_drewN HBALL.out nq2
          generalize w8.drewN nq2 = w9 at *
          go_wp2_with fail
          refine (canon_any m _ _ _ w9 HX9.out HCA.out HBY.out (by omega)).mono ?_
          rintro e w10 ⟨rfl, rfl⟩
          go_wp2_with fail
          refine (same_any m ns _ _ _ _ _ _ w9 (by omega) (by omega) HX9.out HN9.out HLW.out).mono ?_
          rintro e w10 ⟨rfl, rfl⟩
          go_wp2_with fail
          go_ret
          exact ⟨rfl, HB9.out⟩
        · have HX : Hid (Rd w8 w6.heap.size (some ⟨g6, 4, none⟩) m) := (HM6.out 4 (by simp [*])).later HB8.out (Nat.le_refl _)
          clear HM6
          refine (read_any m.length m g6 _ w8 (by omega) (by omega) HR8.out (by omega)).mono ?_
          rintro e w9 ⟨rfl, nq2, rfl⟩
          have HX9 : Hid (Rd (w8.drewN nq2) w6.heap.size _ m) := HX.out.later (below_drewN (Below.refl w6.heap.size w8) nq2) (Nat.le_refl _)
          have HN9 : Hid (Rd (w8.drewN nq2) w2.heap.size (some ⟨w.heap.size, 0, none⟩) ns) := (HnW.out.later HBN.out (Nat.le_refl _)).later (below_drewN (Below.refl w2.heap.size w8) nq2) (Nat.le_refl _)
          have HB9 : Hid (Below w.heap.size w (w8.drewN nq2)) := below_drewN HBALL.out nq2
          generalize w8.drewN nq2 = w9 at *
          go_wp2_with fail
          refine (canon_any m _ _ _ w9 HX9.out HCA.out HBY.out (by omega)).mono ?_
          rintro e w10 ⟨rfl, rfl⟩
          go_wp2_with fail
          refine (same_any m ns _ _ _ _ _ _ w9 (by omega) (by omega) HX9.out HN9.out HLW.out).mono ?_
          rintro e w10 ⟨rfl, rfl⟩
          go_wp2_with fail
          go_ret
          exact ⟨rfl, HB9.out⟩

set_option maxHeartbeats 2000000 in
theorem law3_nil (bs : List Int) (a0 : Option Addr) (c0 : Nat) (w : World) (hb : Rd w w.heap.size a0 bs) (hc0 : a0 = none → c0 = 0) (hlb : bs.length ≤ 524288) :
    Calls Try.prog 3 #[.slice a0 bs.length c0, .slice none 0 0, .int .i64 0] w fun e w' => e = .returned (.bool true) ∧ Below w.heap.size w w' := by
  have hne := fun wx : World => run_neq_slice_nil_any (P := Try.prog) wx 22 5 none 0 0 0 0 Try.underlying22
  have h1 : ¬ (524288 : Int) < bs.length := by omega
  have HbW : Hid (Rd w w.heap.size a0 bs) := hb
  have HnW : Hid (Rd w w.heap.size none []) := .inl rfl
  have HBW : Hid (Below w.heap.size w w) := Below.refl _ _
  have hB : Byt [] := fun z hz => by simp at hz
  clear hb
  go_enter Try.func3, Try.ntmps3
  go_wp2_with (go_at_call 5; refine (b5_ok _ _ _ _ _ _ _ _ (by omega)).mono ?_; rintro e w' ⟨rfl, rfl⟩)
  clear hne
  refine wp_loop_rounds 1 ?_
  rw [rounds_succ]
  go_wp2_with fail
  refine (clone_any bs a0 c0 w.heap.size w HbW.out (Nat.le_refl _) hc0 (by omega)).mono ?_
  rintro e w3 ⟨v3, rfl, hO3, hB3⟩
  have hz3 := hB3.size
  obtain ⟨ad3, cap3, rfl, hcap3, hR3⟩ := hO3.shape'
  have HR3 : Hid (Rd w3 w3.heap.size ad3 bs) := hR3
  have HB3 : Hid (Below w.heap.size w w3) := hB3
  clear hO3 hB3 hR3 hcap3
  go_wp2_with fail
  refine (clone_any bs a0 c0 w.heap.size w3 (HbW.out.later HB3.out (Nat.le_refl _)) hz3 hc0 (by omega)).mono ?_
  rintro e w4 ⟨v4, rfl, hO4, hB4⟩
  have hz4 := hB4.size
  have HO4 : Hid (Owns w4 w3.heap.size v4 bs) := hO4
  have HB4 : Hid (Below w3.heap.size w3 w4) := hB4
  clear hO4 hB4
  go_wp2_with fail
  refine (mpint_any w3.heap.size v4 bs none 0 ([] : List Int) w4 HO4.out hz4 (((HnW.out.later HB3.out (Nat.le_refl _)).mono hz3).later HB4.out (Nat.le_refl _)) (fun _ => rfl) (by simp) (by unfold maxLen; omega) hB (by omega) (by simp)).mono ?_
  rintro e w5 ⟨v5, rfl, hO5, hB5⟩
  have HB5 : Hid (Below w3.heap.size w3 w5) := HB4.out.trans hB5
  have hz5 : w3.heap.size ≤ w5.heap.size := HB5.out.size
  have hbl : (body ([] : List Int)).length ≤ 524288 + 1 := Nat.le_trans (body_len ([] : List Int)) (by simp)
  have HCA : Hid (Canon (body ([] : List Int))) := body_canon ([] : List Int) hB
  have HBY : Hid (Byt (body ([] : List Int))) := body_byt ([] : List Int) hB
  have HLW : Hid (∀ k, 1 ≤ k → low (body ([] : List Int)) k = low ([] : List Int) k) := low_body ([] : List Int)
  have hlen5 : (bs ++ be32 (body ([] : List Int)).length ++ body ([] : List Int)).length = bs.length + 4 + (body ([] : List Int)).length := by simp [be32]; omega
  obtain ⟨g5, cap5, rfl, hL5, hC5, hR5⟩ := hO5.shape (by omega)
  have HR5 : Hid (Rd w5 w5.heap.size (some ⟨g5, 0, none⟩) (bs ++ be32 (body ([] : List Int)).length ++ body ([] : List Int))) := hR5
  clear hO5 hB5 hR5 HO4 HB4 hL5 hC5
  generalize hm : body ([] : List Int) = m at *
  have HDR : Hid (body ([] : List Int) = m) := hm
  clear hm
  obtain ⟨out2, hout2⟩ : ∃ out2, out2 = be32 m.length ++ m := ⟨_, rfl⟩
  have e5 : bs ++ be32 m.length ++ m = bs ++ out2 := by rw [hout2, List.append_assoc]
  have HE5 : Hid (bs ++ be32 m.length ++ m = bs ++ out2) := e5
  have HOUT : Hid (out2 = be32 m.length ++ m) := hout2
  have HOL : Hid (out2.length = 4 + m.length) := by show _ = _; rw [hout2]; simp [be32]; omega
  rw [e5] at HR5 hlen5 ⊢
  have HL5 : Hid ((bs ++ out2).length = bs.length + 4 + m.length) := hlen5
  clear e5 hout2 hlen5
  obtain ⟨out1, ho1⟩ : ∃ out1, out1 = bs ++ out2 := ⟨_, rfl⟩
  have HO1 : Hid (out1 = bs ++ out2) := ho1
  rw [← ho1] at HR5 HL5 ⊢
  clear ho1
  go_wp2_with fail
  refine (mpint_any w5.heap.size (.slice none 0 0) [] none 0 [] w5 (World.ownsRow_nil _ _ _ _) (Nat.le_refl _) (.inl rfl) (fun _ => rfl) (by simp) (by unfold maxLen; omega) (fun z hz => by simp at hz) (by simp) (by simp)).mono ?_
  rintro e w6 ⟨v6, rfl, hO6, hB6⟩
  have HB6a : Hid (Below w5.heap.size w5 w6) := hB6
  have hz6 : w5.heap.size ≤ w6.heap.size := hB6.size
  rw [HDR.out, List.nil_append, ← HOUT.out] at hO6
  obtain ⟨g6, cap6, rfl, hL6, hC6, hR6⟩ := hO6.shape (by rw [HOL.out]; omega)
  have HR6 : Hid (Rd w6 w6.heap.size (some ⟨g6, 0, none⟩) out2) := hR6
  have hL6' : 4 + m.length ≤ cap6 := by rw [← HOL.out]; exact hL6
  clear hO6 hB6 hR6 hL6
  go_wp2_with fail
  refine (concat_any bs out2 ad3 _ cap3 _ w6 (((HR3.out.later HB5.out (Nat.le_refl _)).mono hz5).later HB6a.out (Nat.le_refl _) |>.mono hz6) HR6.out (by omega) (by rw [HOL.out]; omega)).mono ?_
  rintro e w7 ⟨v7, rfl, hO7, hB7⟩
  have HB7 : Hid (Below w6.heap.size w6 w7) := hB7
  have hz7 : w6.heap.size ≤ w7.heap.size := hB7.size
  rw [← HO1.out] at hO7
  obtain ⟨g7, cap7, rfl, hL7, hC7, hR7⟩ := hO7.shape (by rw [HL5.out]; omega)
  have HR7 : Hid (Rd w7 w7.heap.size (some ⟨g7, 0, none⟩) out1) := hR7
  clear hO7 hB7 hR7 hL7 hC7
  go_wp2_with fail
  refine (eqb_any out1 out1 _ _ _ _ _ _ w7 (by rw [HL5.out]; omega) ((HR5.out.later HB6a.out (Nat.le_refl _)).mono hz6 |>.later HB7.out (Nat.le_refl _)) HR7.out).mono ?_
  rintro e w8 ⟨rfl, nq, rfl⟩
  rw [decide_eq_true rfl]
  have HB8 : Hid (Below w6.heap.size w6 (w7.drewN nq)) := below_drewN HB7.out nq
  have hz8 : w6.heap.size ≤ (w7.drewN nq).heap.size := hz7
  generalize w7.drewN nq = w8 at *
  clear HR7 HB7 hz7
  have HM6 : Hid (∀ X : Nat, (if cap6 = 4 then (some ⟨g6, 0, none⟩ : Option Addr) else some ⟨g6, 4, none⟩) = some ⟨g6, X, none⟩ → Rd w6 w6.heap.size (some ⟨g6, X, none⟩) m) := fun X h => by
    have := Rd_drop (k := 4) HR6.out (c := cap6) (by rw [HOL.out]; exact hL6')
    rw [HOUT.out, List.drop_left' (by simp [be32])] at this
    rw [← h]; exact this
  have HR8 : Hid (Rd w8 w8.heap.size (some ⟨g6, 0, none⟩) (be32 m.length ++ m)) := by
    rw [← HOUT.out]; exact (HR6.out.later HB8.out (Nat.le_refl _)).mono hz8
  have HBALL : Hid (Below w.heap.size w w8) := HBW.out.trans (((HB3.out.trans ((HB5.out.trans ((HB6a.out.trans (HB8.out.mono hz6)).mono hz5)).mono hz3))).mono HBW.out.size)
  have HBN : Hid (Below w.heap.size w w8) := HB3.out.trans ((HB5.out.trans ((HB6a.out.trans (HB8.out.mono hz6)).mono hz5)).mono hz3)
  rw [HOL.out]
  go_wp2_with fail
  · have HX : Hid (Rd w8 w6.heap.size (some ⟨g6, 0, none⟩) m) := (HM6.out 0 (by simp [*])).later HB8.out (Nat.le_refl _)
    clear HM6
    refine (read_any m.length m g6 _ w8 (by omega) (by omega) HR8.out (by omega)).mono ?_
    rintro e w9 ⟨rfl, nq2, rfl⟩
    have HX9 : Hid (Rd (w8.drewN nq2) w6.heap.size _ m) := HX.out.later (below_drewN (Below.refl w6.heap.size w8) nq2) (Nat.le_refl _)
    have HN9 : Hid (Rd (w8.drewN nq2) w.heap.size none ([] : List Int)) := (HnW.out.later HBN.out (Nat.le_refl _)).later (below_drewN (Below.refl w.heap.size w8) nq2) (Nat.le_refl _)
    have HB9 : Hid (Below w.heap.size w (w8.drewN nq2)) := below_drewN HBALL.out nq2
    generalize w8.drewN nq2 = w9 at *
    go_wp2_with fail
    refine (canon_any m _ _ _ w9 HX9.out HCA.out HBY.out (by omega)).mono ?_
    rintro e w10 ⟨rfl, rfl⟩
    go_wp2_with fail
    refine (same_any m ([] : List Int) _ _ _ _ _ _ w9 (by omega) (by simp) HX9.out HN9.out HLW.out).mono ?_
    rintro e w10 ⟨rfl, rfl⟩
    go_wp2_with fail
    go_ret
    exact ⟨rfl, HB9.out⟩
  · have HX : Hid (Rd w8 w6.heap.size (some ⟨g6, 4, none⟩) m) := (HM6.out 4 (by simp [*])).later HB8.out (Nat.le_refl _)
    clear HM6
    refine (read_any m.length m g6 _ w8 (by omega) (by omega) HR8.out (by omega)).mono ?_
    rintro e w9 ⟨rfl, nq2, rfl⟩
    have HX9 : Hid (Rd (w8.drewN nq2) w6.heap.size _ m) := HX.out.later (below_drewN (Below.refl w6.heap.size w8) nq2) (Nat.le_refl _)
    have HN9 : Hid (Rd (w8.drewN nq2) w.heap.size none ([] : List Int)) := (HnW.out.later HBN.out (Nat.le_refl _)).later (below_drewN (Below.refl w.heap.size w8) nq2) (Nat.le_refl _)
    have HB9 : Hid (Below w.heap.size w (w8.drewN nq2)) := below_drewN HBALL.out nq2
    generalize w8.drewN nq2 = w9 at *
    go_wp2_with fail
    refine (canon_any m _ _ _ w9 HX9.out HCA.out HBY.out (by omega)).mono ?_
    rintro e w10 ⟨rfl, rfl⟩
    go_wp2_with fail
    refine (same_any m ([] : List Int) _ _ _ _ _ _ w9 (by omega) (by simp) HX9.out HN9.out HLW.out).mono ?_
    rintro e w10 ⟨rfl, rfl⟩
    go_wp2_with fail
    go_ret
    exact ⟨rfl, HB9.out⟩
end Go.Proofs.Qxb6628551a

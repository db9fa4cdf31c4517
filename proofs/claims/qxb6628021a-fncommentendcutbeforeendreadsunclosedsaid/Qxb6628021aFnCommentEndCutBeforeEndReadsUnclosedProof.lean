/-
  THE PROOF OF 'Rows.FnCommentEndCutBeforeEndReadsUnclosedSaid'. The frame is the guide's template at this function's number and types; the walk is ours.
-/
import Derived.Test.Qxb6628021aRows
import Derived.Test.Qxb6628021aClose
import Derived.WalkKit
import Derived.ProofKit
import Derived.OpenShut
import Derived.ShutString
namespace Go.Proofs.Qxb6628021a.fnCommentEndCutBeforeEndReadsUnclosed
open Go.ChangeShapes Go.WideShapes Go.ChangeAt Go.RowKit
open Go.ChangeMaps (open_string shut_string)
open Plain
set_option linter.unusedVariables false      -- a walk need not use every 'w<i>' (that an integer argument fits its kind)

theorem own : ownKnob Try.prog.godebug = none := by kernel_rfl

theorem bytes4_any (s : ByteArray) (i k : Int) (w : World) (hs : s.size ≤ 1048576) :
    Calls Try.prog 8 #[.string s, .int .i64 i, .int .i64 k] w fun e w' => e = .returned (.bool true) ∧ w' = w := by
  have hs' : ¬ (1048576 : Int) < s.size := by omega
  go_enter Try.func8, Try.ntmps8
  go_wp2
  go_ret
  exact ⟨rfl, rfl⟩
theorem bytes4_no (s : ByteArray) (i k : Int) (w : World) (hs : 1048576 < s.size) :
    Calls Try.prog 8 #[.string s, .int .i64 i, .int .i64 k] w fun e w' => e = .returned (.bool false) ∧ w' = w := by
  have hs' : (1048576 : Int) < s.size := by omega
  go_enter Try.func8, Try.ntmps8
  go_wp2
  go_ret
  exact ⟨rfl, rfl⟩
theorem way_f1 {s : ByteArray} {i r : Nat} (HO : Hid (at2 s.data.toList i 47 42 = true → i + 2 ≤ r)) (h : i + 1 < s.size) (h1 : (s[i].toNat : Int) = 47) (h2 : ((s[i + 1].toNat : Int) == 42) = true) (hr : (r : Int) < i + 2) : False := by
  have := HO.out (way_open h h1 h2)
  omega
theorem way_f2 {s : ByteArray} {r : Nat} (HD : Hid (r = s.size ∨ (2 ≤ r ∧ at2 s.data.toList (r - 2) 42 47 = true))) (hne : ¬ (r : Int) = s.size) (hr : r ≤ s.size) (hb : r - 1 < s.size) (h2 : (!((s[r - 1].toNat : Int) == 47)) = true) : False := by
  rcases HD.out with h | ⟨h, ha⟩
  · omega
  · obtain ⟨j, rfl⟩ : ∃ j, r = j + 2 := ⟨r - 2, by omega⟩
    have := (at2_iff s j 42 47 (by omega)).1 ha
    have e : (s[j + 1].toNat : Int) = 47 := this.2
    have h2' : (!((s[j + 1].toNat : Int) == 47)) = true := h2
    rw [e] at h2'
    exact absurd h2' (by decide)
theorem way_f3 {s : ByteArray} {r : Nat} (HD : Hid (r = s.size ∨ (2 ≤ r ∧ at2 s.data.toList (r - 2) 42 47 = true))) (hne : ¬ (r : Int) = s.size) (hr : r ≤ s.size) (hb : r - 2 < s.size) (h2 : ¬ (s[r - 2].toNat : Int) = 42) : False := by
  rcases HD.out with h | ⟨h, ha⟩
  · omega
  · obtain ⟨j, rfl⟩ : ∃ j, r = j + 2 := ⟨r - 2, by omega⟩
    have := (at2_iff s j 42 47 (by omega)).1 ha
    exact h2 this.1
/-! ### STEP 1: THE WALK: the Go text returns true. 'Grown w w'': the world has at most new blocks (Derived/RowKit3.lean). Part the cases AHEAD of 'go_enter' where a test parts the walk; take each callee by a contract of your own. -/
set_option maxHeartbeats 2000000 in
theorem walk (a0 : ByteArray) (a1 : Int) (a2 : Int) (w0 : a0.size ≤ maxLen) (w1 : (Lit.int .i64 a1).wf = true) (w2 : (Lit.int .i64 a2).wf = true) (w : World) :
    Calls Try.prog 4 #[.string a0, .int .i64 a1, .int .i64 a2] w fun e w' => e = .returned (.bool true) ∧ Grown w w' := by
  unfold maxLen at w0
  by_cases hs : a0.size ≤ 1048576
  · have hs' : ¬ (1048576 : Int) < a0.size := by omega
    by_cases h0 : 0 ≤ a1
    · obtain ⟨i, rfl⟩ := Int.eq_ofNat_of_zero_le h0
      by_cases h1 : i ≤ a0.size
      · have h1' : ¬ ((a0.size : Int) < (i : Int)) := by omega
        by_cases h2 : (i : Int) ≤ a2
        · obtain ⟨k, rfl⟩ := Int.eq_ofNat_of_zero_le (show 0 ≤ a2 by omega)
          have h2' : ¬ ((k : Int) < (i : Int)) := by omega
          by_cases h3 : k ≤ a0.size
          · have h3' : ¬ ((a0.size : Int) < (k : Int)) := by omega
            go_enter Try.func4, Try.ntmps4
            go_wp2_with (go_at_call 8; refine (bytes4_any a0 _ _ _ hs).mono ?_; rintro e w' ⟨rfl, rfl⟩)
            refine (commentEnd_any a0 i _ hs h1).mono ?_
            rintro e w' ⟨rfl, rfl⟩
            obtain ⟨r, hr⟩ : ∃ r, CE a0.data.toList i 0 = r := ⟨_, rfl⟩
            have hr1 := CE_ge a0.data.toList i 0
            have hr2 : CE a0.data.toList i 0 ≤ a0.size := CE_le a0.data.toList i 0 h1
            have HO : Hid (at2 a0.data.toList i 47 42 = true → i + 2 ≤ r) := fun h => by rw [← hr, CE_open 0 h]; exact CE_ge a0.data.toList (i + 2) (0 + 1)
            have HD : Hid (r = a0.size ∨ (2 ≤ r ∧ at2 a0.data.toList (r - 2) 42 47 = true)) := by rw [← hr]; exact CE_closed a0.data.toList i 0 h1
            have HK : Hid (CE (a0.extract 0 k).data.toList i 0 = min r k) := by
              rw [extract_data']
              show CE ((a0.data.toList.drop 0).take (k - 0)) i 0 = min r k
              rw [List.drop_zero, Nat.sub_zero, CE_cut a0.data.toList k h3 i 0 (by omega), hr]
            rw [hr] at hr1 hr2 ⊢
            clear hr
            have hr1' : ¬ (r : Int) < i := by omega
            have hr2' : ¬ (a0.size : Int) < r := by omega
            have hks : (a0.extract 0 k).size = k := by rw [ByteArray.size_extract]; omega
            by_cases hrk : r < k
            · go_wp2_with fail
              refine (commentEnd_any (a0.extract 0 k) i _ (by omega) (by omega)).mono ?_
              rintro e w' ⟨rfl, rfl⟩
              rw [HK.out, show min r k = r from by omega]
              clear hks
              go_wp2_with fail
              all_goals first
                | (go_ret; exact ⟨rfl, Grown.refl _⟩)
                | exact (way_f1 HO (by omega) ‹_› ‹_› ‹_›).elim
                | exact (way_f2 HD ‹_› hr2 (by omega) (by first | assumption | exact (And.right ‹_›))).elim
                | exact (way_f3 HD ‹_› hr2 (by omega) ‹_›).elim
            · go_wp2_with fail
              refine (commentEnd_any (a0.extract 0 k) i _ (by omega) (by omega)).mono ?_
              rintro e w' ⟨rfl, rfl⟩
              rw [HK.out, show min r k = k from by omega]
              clear hks
              go_wp2_with fail
              all_goals first
                | (go_ret; exact ⟨rfl, Grown.refl _⟩)
                | exact (way_f1 HO (by omega) ‹_› ‹_› ‹_›).elim
                | exact (way_f2 HD ‹_› hr2 (by omega) (by first | assumption | exact (And.right ‹_›))).elim
                | exact (way_f3 HD ‹_› hr2 (by omega) ‹_›).elim
          · have h3' : (a0.size : Int) < (k : Int) := by omega
            go_enter Try.func4, Try.ntmps4
            go_wp2_with (go_at_call 8; refine (bytes4_any a0 _ _ _ hs).mono ?_; rintro e w' ⟨rfl, rfl⟩)
            go_ret
            exact ⟨rfl, Grown.refl _⟩
        · have h2' : a2 < (i : Int) := by omega
          go_enter Try.func4, Try.ntmps4
          go_wp2_with (go_at_call 8; refine (bytes4_any a0 _ _ _ hs).mono ?_; rintro e w' ⟨rfl, rfl⟩)
          go_ret
          exact ⟨rfl, Grown.refl _⟩
      · have h1' : (a0.size : Int) < (i : Int) := by omega
        go_enter Try.func4, Try.ntmps4
        go_wp2_with (go_at_call 8; refine (bytes4_any a0 _ _ _ hs).mono ?_; rintro e w' ⟨rfl, rfl⟩)
        go_ret
        exact ⟨rfl, Grown.refl _⟩
    · have h0' : a1 < 0 := by omega
      go_enter Try.func4, Try.ntmps4
      go_wp2_with (go_at_call 8; refine (bytes4_any a0 _ _ _ hs).mono ?_; rintro e w' ⟨rfl, rfl⟩)
      go_ret
      exact ⟨rfl, Grown.refl _⟩
  · go_enter Try.func4, Try.ntmps4
    go_wp2_with (go_at_call 8; refine (bytes4_no a0 _ _ _ (by omega)).mono ?_; rintro e w' ⟨rfl, rfl⟩)
    go_ret
    exact ⟨rfl, Grown.refl _⟩

/-! ### THE ROW's STEP: WRITTEN OUT: LEAVE IT -/
set_option maxRecDepth 100000 in
theorem lifted (os : Os) (started : os.Started) (H : Type) (enc : TypeId × Value → H) :
    ReturnsInHanded {} Try.checked os 4 .any (Rows.fnCommentEndCutBeforeEndReadsUnclosedSpec.pre6 enc Try.prog Try.f4 Rows.fnCommentEndCutBeforeEndReadsUnclosedRow.domain false) (Rows.fnCommentEndCutBeforeEndReadsUnclosedSpec.post enc Try.prog Try.f4 false true false false) := by
  refine returnsInHanded_of_change (C := Try.checked) own started (by kernel_rfl) Try.func4
    (ChangeSpec.witness6 (enc := enc) (C := Try.checked) false ⟨#[], #[.string ByteArray.empty, .int .i64 0, .int .i64 0], []⟩ 8 (by kernel_rfl) (by kernel_rfl) (by kernel_rfl) (by kernel_rfl)) ?_
  intro W base args ds gs before hval0 hW hcnd _
  have hval : ∀ (j : Nat) t v, Try.f4.params[j]? = some t → args[j]? = some v → Value.okWide Try.prog W .any base t v := hval0
  have hW' := hW
  obtain ⟨p, q, hA0, hV, rfl, hfz, hnd⟩ := hW
  have hA : DataW.TrodAll enc Try.prog W 0 (fun _ => true) true Try.f4.params.toList args.toList ds p := hA0
  rw [Try.params4] at hA hval
  obtain ⟨v0, vs0, d0, ds0, p0, q0, hargs, rfl, rfl, h0, r0⟩ := trodAll_cons hA
  obtain ⟨v1, vs1, d1, ds1, p1, q1, rfl, rfl, rfl, h1, r1⟩ := trodAll_cons r0
  obtain ⟨v2, vs2, d2, ds2, p2, q2, rfl, rfl, rfl, h2, r2⟩ := trodAll_cons r1
  obtain ⟨rfl, rfl, rfl⟩ := trodAll_nil r2
  obtain rfl : args = #[v0, v1, v2] := by cases args; simp_all
  obtain ⟨rfl, rfl⟩ := trodVars_none hV
  obtain ⟨a0, rfl, rfl, rfl, w0⟩ := open_string Try.underlying9 (hval 0 9 v0 rfl rfl) h0
  obtain ⟨a1, rfl, rfl, rfl, w1⟩ := open_int Try.underlying3 (hval 1 3 v1 rfl rfl) h1
  obtain ⟨a2, rfl, rfl, rfl, w2⟩ := open_int Try.underlying3 (hval 2 3 v2 rfl rfl) h2
  clear hA0 hval0
  simp only [List.append_nil] at hW'
  refine (walk a0 a1 a2 w0 w1 w2 W).mono fun e W' ⟨he, hg⟩ => ?_
  subst he
  exact ⟨_, rfl, post_of_same (pa := []) (pv := []) hW' (fun _ _ _ => (trodAll_cons_mk (shut_bool Try.underlying4 _) trodAll_mk0)) (fun sp _ => (trodAll_cons_mk (shut_string Try.underlying9 w0) (trodAll_cons_mk (shut_int Try.underlying3 w1) (trodAll_cons_mk (shut_int Try.underlying3 w2) trodAll_mk0)))) (fun _ _ => rfl) rfl
    (hg.frame _) hg.2.1 (ok_one (by kernel_rfl) rfl (okWide_bool_mk Try.underlying4 _))⟩

theorem over : Rows.fnCommentEndCutBeforeEndReadsUnclosedRow.holds Try.pinned (OpenSpec.ofChange Rows.fnCommentEndCutBeforeEndReadsUnclosedSpec) :=
  OpenClaim.holds_of_wide 4 Try.f4 rfl rfl rfl rfl rfl rfl rfl ⟨rfl, rfl, rfl, rfl, rfl⟩ rfl rfl rfl rfl rfl (by kernel_rfl) Try.func4 (by kernel_rfl)
    (of_decide_eq_true (by kernel_rfl)) (by unfold Func.isWrapper; first | (rw [if_pos (by decide +kernel)]; kernel_rfl) | (rw [if_neg (by decide +kernel)]; exact ⟨rfl, rfl⟩))
    (fun os started H enc _ => lifted os started H enc)

/-- ████ THE STATEMENT ████ -/
theorem proved : Rows.FnCommentEndCutBeforeEndReadsUnclosedSaid :=
  over
end Go.Proofs.Qxb6628021a.fnCommentEndCutBeforeEndReadsUnclosed

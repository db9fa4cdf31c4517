/-
  THE PROOF OF 'Rows.FnCommentEndMatchesNestedDescentSaid'. The frame is the guide's template at this function's number and types; the walk is ours.
-/
import Derived.Test.Qxb6628021aRows
import Derived.Test.Qxb6628021aClose
import Derived.WalkKit
import Derived.ProofKit
import Derived.OpenShut
import Derived.ShutString
namespace Go.Proofs.Qxb6628021a.fnCommentEndMatchesNestedDescent
open Go.ChangeShapes Go.WideShapes Go.ChangeAt Go.RowKit
open Go.ChangeMaps (open_string shut_string)
open Plain
set_option linter.unusedVariables false      -- a walk need not use every 'w<i>' (that an integer argument fits its kind)

theorem own : ownKnob Try.prog.godebug = none := by kernel_rfl

theorem bytes3_any (s : ByteArray) (i : Int) (w : World) (hs : s.size ≤ 1048576) :
    Calls Try.prog 5 #[.string s, .int .i64 i] w fun e w' => e = .returned (.bool true) ∧ w' = w := by
  have hs' : ¬ (1048576 : Int) < s.size := by omega
  go_enter Try.func5, Try.ntmps5
  go_wp2
  go_ret
  exact ⟨rfl, rfl⟩
theorem bytes3_no (s : ByteArray) (i : Int) (w : World) (hs : 1048576 < s.size) :
    Calls Try.prog 5 #[.string s, .int .i64 i] w fun e w' => e = .returned (.bool false) ∧ w' = w := by
  have hs' : (1048576 : Int) < s.size := by omega
  go_enter Try.func5, Try.ntmps5
  go_wp2
  go_ret
  exact ⟨rfl, rfl⟩
/-! ### STEP 1: THE WALK: the Go text returns true. 'Grown w w'': the world has at most new blocks (Derived/RowKit3.lean). Part the cases AHEAD of 'go_enter' where a test parts the walk; take each callee by a contract of your own. -/
theorem walk (a0 : ByteArray) (a1 : Int) (w0 : a0.size ≤ maxLen) (w1 : (Lit.int .i64 a1).wf = true) (w : World) :
    Calls Try.prog 3 #[.string a0, .int .i64 a1] w fun e w' => e = .returned (.bool true) ∧ Grown w w' := by
  unfold maxLen at w0
  by_cases hs : a0.size ≤ 1048576
  · have hs' : ¬ (1048576 : Int) < a0.size := by omega
    by_cases h0 : 0 ≤ a1
    · obtain ⟨i, rfl⟩ := Int.eq_ofNat_of_zero_le h0
      by_cases h1 : i + 1 < a0.size
      · have h1' : ¬ ((a0.size : Int) - 1 ≤ (i : Int)) := by omega
        go_enter Try.func3, Try.ntmps3
        go_wp2_with (go_at_call 5; refine (bytes3_any a0 _ _ hs).mono ?_; rintro e w' ⟨rfl, rfl⟩)
        · go_ret
          exact ⟨rfl, Grown.refl _⟩
        · have hne : ((a0[i + 1].toNat : Int) != 42) = false := by assumption
          have ho := way_open h1 ‹_› (by simpa using hne)
          have HC : Hid (CE a0.data.toList i 0 = CE a0.data.toList (i + 2) 1) := by rw [CE_open 0 ho]; rfl
          clear ho
          refine (commentEnd_any a0 i _ hs (by omega)).mono ?_
          rintro e w' ⟨rfl, rfl⟩
          rw [HC.out]
          generalize hq : CE a0.data.toList (i + 2) 1 = q
          have Hq : Hid (CE a0.data.toList (i + 2) 1 = q) := hq
          clear hq HC
          go_wp2_with fail
          rw [show ((i : Int) + 2) = ((i + 2 : Nat) : Int) from by omega]
          refine (close_any a0 hs _ (i + 2) _ (by omega) (Nat.le_refl _)).mono ?_
          rintro e w' ⟨rfl, rfl⟩
          rw [Hq.out]
          go_wp2_with fail
          go_ret
          exact ⟨by simp, Grown.refl _⟩
        · go_ret
          exact ⟨rfl, Grown.refl _⟩
      · have h1' : (a0.size : Int) - 1 ≤ (i : Int) := by omega
        go_enter Try.func3, Try.ntmps3
        go_wp2_with (go_at_call 5; refine (bytes3_any a0 _ _ hs).mono ?_; rintro e w' ⟨rfl, rfl⟩)
        go_ret
        exact ⟨rfl, Grown.refl _⟩
    · have h0' : a1 < 0 := by omega
      go_enter Try.func3, Try.ntmps3
      go_wp2_with (go_at_call 5; refine (bytes3_any a0 _ _ hs).mono ?_; rintro e w' ⟨rfl, rfl⟩)
      go_ret
      exact ⟨rfl, Grown.refl _⟩
  · go_enter Try.func3, Try.ntmps3
    go_wp2_with (go_at_call 5; refine (bytes3_no a0 _ _ (by omega)).mono ?_; rintro e w' ⟨rfl, rfl⟩)
    go_ret
    exact ⟨rfl, Grown.refl _⟩

/-! ### THE ROW's STEP: WRITTEN OUT: LEAVE IT -/
set_option maxRecDepth 100000 in
theorem lifted (os : Os) (started : os.Started) (H : Type) (enc : TypeId × Value → H) :
    ReturnsInHanded {} Try.checked os 3 .any (Rows.fnCommentEndMatchesNestedDescentSpec.pre6 enc Try.prog Try.f3 Rows.fnCommentEndMatchesNestedDescentRow.domain false) (Rows.fnCommentEndMatchesNestedDescentSpec.post enc Try.prog Try.f3 false true false false) := by
  refine returnsInHanded_of_change (C := Try.checked) own started (by kernel_rfl) Try.func3
    (ChangeSpec.witness6 (enc := enc) (C := Try.checked) false ⟨#[], #[.string ByteArray.empty, .int .i64 0], []⟩ 8 (by kernel_rfl) (by kernel_rfl) (by kernel_rfl) (by kernel_rfl)) ?_
  intro W base args ds gs before hval0 hW hcnd _
  have hval : ∀ (j : Nat) t v, Try.f3.params[j]? = some t → args[j]? = some v → Value.okWide Try.prog W .any base t v := hval0
  have hW' := hW
  obtain ⟨p, q, hA0, hV, rfl, hfz, hnd⟩ := hW
  have hA : DataW.TrodAll enc Try.prog W 0 (fun _ => true) true Try.f3.params.toList args.toList ds p := hA0
  rw [Try.params3] at hA hval
  obtain ⟨v0, vs0, d0, ds0, p0, q0, hargs, rfl, rfl, h0, r0⟩ := trodAll_cons hA
  obtain ⟨v1, vs1, d1, ds1, p1, q1, rfl, rfl, rfl, h1, r1⟩ := trodAll_cons r0
  obtain ⟨rfl, rfl, rfl⟩ := trodAll_nil r1
  obtain rfl : args = #[v0, v1] := by cases args; simp_all
  obtain ⟨rfl, rfl⟩ := trodVars_none hV
  obtain ⟨a0, rfl, rfl, rfl, w0⟩ := open_string Try.underlying9 (hval 0 9 v0 rfl rfl) h0
  obtain ⟨a1, rfl, rfl, rfl, w1⟩ := open_int Try.underlying3 (hval 1 3 v1 rfl rfl) h1
  clear hA0 hval0
  simp only [List.append_nil] at hW'
  refine (walk a0 a1 w0 w1 W).mono fun e W' ⟨he, hg⟩ => ?_
  subst he
  exact ⟨_, rfl, post_of_same (pa := []) (pv := []) hW' (fun _ _ _ => (trodAll_cons_mk (shut_bool Try.underlying4 _) trodAll_mk0)) (fun sp _ => (trodAll_cons_mk (shut_string Try.underlying9 w0) (trodAll_cons_mk (shut_int Try.underlying3 w1) trodAll_mk0))) (fun _ _ => rfl) rfl
    (hg.frame _) hg.2.1 (ok_one (by kernel_rfl) rfl (okWide_bool_mk Try.underlying4 _))⟩

theorem over : Rows.fnCommentEndMatchesNestedDescentRow.holds Try.pinned (OpenSpec.ofChange Rows.fnCommentEndMatchesNestedDescentSpec) :=
  OpenClaim.holds_of_wide 3 Try.f3 rfl rfl rfl rfl rfl rfl rfl ⟨rfl, rfl, rfl, rfl, rfl⟩ rfl rfl rfl rfl rfl (by kernel_rfl) Try.func3 (by kernel_rfl)
    (of_decide_eq_true (by kernel_rfl)) (by unfold Func.isWrapper; first | (rw [if_pos (by decide +kernel)]; kernel_rfl) | (rw [if_neg (by decide +kernel)]; exact ⟨rfl, rfl⟩))
    (fun os started H enc _ => lifted os started H enc)

/-- ████ THE STATEMENT ████ -/
theorem proved : Rows.FnCommentEndMatchesNestedDescentSaid :=
  over
end Go.Proofs.Qxb6628021a.fnCommentEndMatchesNestedDescent

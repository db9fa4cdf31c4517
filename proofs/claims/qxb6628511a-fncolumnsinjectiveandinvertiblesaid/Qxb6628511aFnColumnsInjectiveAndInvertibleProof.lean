/-
  THE PROOF OF 'Rows.FnColumnsInjectiveAndInvertibleSaid'. The frame is the guide's template at this function's number and types; the walk is ours.
-/
import Derived.Test.Qxb6628511aRows
import Derived.Test.Qxb6628511aRe
import Derived.Below
import Derived.WalkKit
import Derived.ProofKit
import Derived.OpenShut
import Derived.ShutString
namespace Go.Proofs.Qxb6628511a.fnColumnsInjectiveAndInvertible
open Go.ChangeShapes Go.WideShapes Go.ChangeAt Go.RowKit
open Go.ChangeMaps (open_string shut_string)
set_option linter.unusedVariables false      -- a walk need not use every 'w<i>' (that an integer argument fits its kind)

theorem own : ownKnob Try.prog.godebug = none := by kernel_rfl

theorem bytes7_ok (a r b s : ByteArray) (w : World) (h : a.size + r.size + b.size + s.size ≤ 1048576) :
    Calls Try.prog 7 #[.string a, .string r, .string b, .string s] w fun e w' => e = .returned (.bool true) ∧ w = w' := by
  have h1 : ¬ (1048576 : Int) < a.size := by omega
  have h2 : ¬ (1048576 : Int) < r.size := by omega
  have h3 : ¬ (1048576 : Int) < a.size + r.size := by omega
  have h4 : ¬ (1048576 : Int) < b.size := by omega
  have h5 : ¬ (1048576 : Int) < a.size + r.size + b.size := by omega
  have h6 : ¬ (1048576 : Int) < s.size := by omega
  have h7 : ¬ (1048576 : Int) < a.size + r.size + b.size + s.size := by omega
  go_enter Try.func7, Try.ntmps7
  go_wp2
  go_ret
  exact ⟨rfl, rfl⟩
theorem bytes7_no (a r b s : ByteArray) (w : World) (ha : a.size ≤ maxLen) (hr : r.size ≤ maxLen) (hb : b.size ≤ maxLen) (hs : s.size ≤ maxLen) (h : 1048576 < a.size + r.size + b.size + s.size) :
    Calls Try.prog 7 #[.string a, .string r, .string b, .string s] w fun e w' => e = .returned (.bool false) ∧ w = w' := by
  unfold maxLen at ha hr hb hs
  by_cases h1 : (1048576 : Int) < a.size
  · go_enter Try.func7, Try.ntmps7
    go_wp2
    go_ret
    exact ⟨rfl, rfl⟩
  by_cases h2 : (1048576 : Int) < r.size
  · go_enter Try.func7, Try.ntmps7
    go_wp2
    go_ret
    exact ⟨rfl, rfl⟩
  by_cases h3 : (1048576 : Int) < a.size + r.size
  · go_enter Try.func7, Try.ntmps7
    go_wp2
    go_ret
    exact ⟨rfl, rfl⟩
  by_cases h4 : (1048576 : Int) < b.size
  · go_enter Try.func7, Try.ntmps7
    go_wp2
    go_ret
    exact ⟨rfl, rfl⟩
  by_cases h5 : (1048576 : Int) < a.size + r.size + b.size
  · go_enter Try.func7, Try.ntmps7
    go_wp2
    go_ret
    exact ⟨rfl, rfl⟩
  by_cases h6 : (1048576 : Int) < s.size
  · go_enter Try.func7, Try.ntmps7
    go_wp2
    go_ret
    exact ⟨rfl, rfl⟩
  have h7 : (1048576 : Int) < a.size + r.size + b.size + s.size := by omega
  go_enter Try.func7, Try.ntmps7
  go_wp2
  go_ret
  exact ⟨rfl, rfl⟩

theorem colsOf_len (a r : ByteArray) : (colsOf a r).length ≤ 2 := by
  unfold colsOf
  split <;> split <;> simp

theorem beq_self (a : ByteArray) : (a.toList == a.toList) = true := by simp

set_option maxHeartbeats 1000000 in
theorem law_ok (a r b s : ByteArray) (w : World) (h : a.size + r.size + b.size + s.size ≤ 1048576) :
    Calls Try.prog 4 #[.string a, .string r, .string b, .string s] w fun e w' => e = .returned (.bool true) ∧ Below w.heap.size w w' := by
  have h1 : ¬ (1048576 : Int) < a.size := by omega
  have h2 : ¬ (1048576 : Int) < r.size := by omega
  have h3 : ¬ (1048576 : Int) < a.size + r.size := by omega
  have h4 : ¬ (1048576 : Int) < b.size := by omega
  have h5 : ¬ (1048576 : Int) < a.size + r.size + b.size := by omega
  have h6 : ¬ (1048576 : Int) < s.size := by omega
  have h7 : ¬ (1048576 : Int) < a.size + r.size + b.size + s.size := by omega
  have HE : Hid ((a.toList == b.toList && r.toList == s.toList) = decide (colsOf a r = colsOf b s)) := by
    show _ = _
    rw [beq_bytes, beq_bytes, Bool.eq_iff_iff]
    simp only [Bool.and_eq_true, decide_eq_true_eq]
    exact (colsOf_inj a r b s).symm
  go_enter Try.func4, Try.ntmps4
  go_wp2_with (go_at_call 7; refine (bytes7_ok _ _ _ _ _ h).mono ?_; rintro e w' ⟨rfl, rfl⟩)
  refine (cols_any a r _).mono ?_
  rintro e w1 ⟨v1, rfl, hb1, hc1⟩
  have HC1 : Hid (IsCols w1 v1 (colsOf a r)) := hc1
  clear hc1
  go_wp2_with fail
  refine (cols_any b s _).mono ?_
  rintro e w2 ⟨v2, rfl, hb2, hc2⟩
  have HC1' : Hid (IsCols w2 v1 (colsOf a r)) := IsCols.later HC1.out hb2
  have HC2 : Hid (IsCols w2 v2 (colsOf b s)) := hc2
  have HB : Hid (Below w.heap.size w w2) := hb1.trans (hb2.mono hb1.size)
  clear HC1 hc2 hb1 hb2
  go_wp2_with fail
  refine (eq_any (colsOf a r) (colsOf b s) v1 v2 _ (colsOf_len a r) HC1'.out HC2.out).mono ?_
  rintro e w3 ⟨rfl, n, rfl⟩
  rw [← HE.out]
  have HB3 : Hid (Below w.heap.size w (w2.drewN n)) := below_drewN HB.out n
  have HC3 : Hid (IsCols (w2.drewN n) v1 (colsOf a r)) := IsCols.later HC1'.out (below_drewN (Below.refl _ _) n)
  have hz : w.heap.size ≤ (w2.drewN n).heap.size := HB3.out.size
  generalize w2.drewN n = w3 at *
  clear HE HC1' HC2 HB
  generalize hx : (a.toList == b.toList) = x
  generalize hy : (r.toList == s.toList) = y
  have HF : ∀ w4, Below w3.heap.size w3 w4 → Below w.heap.size w w4 := fun w4 hb => HB3.out.trans (hb.mono hz)
  have HF' : Hid (∀ w4, Below w3.heap.size w3 w4 → Below w.heap.size w w4) := HF
  clear HF HB3 hz
  cases x <;> cases y
  all_goals
    go_wp2_with fail
    refine (re_any a r v1 _ HC3.out).mono ?_
    rintro e w4 ⟨rfl, hb4⟩
    have HB4 : Hid (Below w.heap.size w w4) := HF'.out w4 hb4
    clear hb4
    go_wp2_with fail
    go_ret
    exact ⟨by simp, HB4.out⟩

/-! ### STEP 1: THE WALK: the Go text returns true. 'Grown w w'': the world has at most new blocks (Derived/RowKit3.lean). Part the cases AHEAD of 'go_enter' where a test parts the walk; take each callee by a contract of your own. -/
theorem walk (a0 : ByteArray) (a1 : ByteArray) (a2 : ByteArray) (a3 : ByteArray) (w0 : a0.size ≤ maxLen) (w1 : a1.size ≤ maxLen) (w2 : a2.size ≤ maxLen) (w3 : a3.size ≤ maxLen) (w : World) :
    Calls Try.prog 4 #[.string a0, .string a1, .string a2, .string a3] w fun e w' => e = .returned (.bool true) ∧ Below w.heap.size w w' := by
  by_cases h : a0.size + a1.size + a2.size + a3.size ≤ 1048576
  · exact law_ok a0 a1 a2 a3 w h
  · go_enter Try.func4, Try.ntmps4
    go_wp2_with (go_at_call 7; refine (bytes7_no _ _ _ _ _ w0 w1 w2 w3 (by omega)).mono ?_; rintro e w' ⟨rfl, rfl⟩)
    go_ret
    exact ⟨rfl, Below.refl _ _⟩

/-! ### THE ROW's STEP: WRITTEN OUT: LEAVE IT -/
set_option maxRecDepth 100000 in
theorem lifted (os : Os) (started : os.Started) (H : Type) (enc : TypeId × Value → H) :
    ReturnsInHanded {} Try.checked os 4 .any (Rows.fnColumnsInjectiveAndInvertibleSpec.pre6 enc Try.prog Try.f4 Rows.fnColumnsInjectiveAndInvertibleRow.domain false) (Rows.fnColumnsInjectiveAndInvertibleSpec.post enc Try.prog Try.f4 false true false false) := by
  refine returnsInHanded_of_change (C := Try.checked) own started (by kernel_rfl) Try.func4
    (ChangeSpec.witness6 (enc := enc) (C := Try.checked) false ⟨#[], #[.string ByteArray.empty, .string ByteArray.empty, .string ByteArray.empty, .string ByteArray.empty], []⟩ 8 (by kernel_rfl) (by kernel_rfl) (by kernel_rfl) (by kernel_rfl)) ?_
  intro W base args ds gs before hval0 hW hcnd _
  have hval : ∀ (j : Nat) t v, Try.f4.params[j]? = some t → args[j]? = some v → Value.okWide Try.prog W .any base t v := hval0
  have hW' := hW
  obtain ⟨p, q, hA0, hV, rfl, hfz, hnd⟩ := hW
  have hA : DataW.TrodAll enc Try.prog W 0 (fun _ => true) true Try.f4.params.toList args.toList ds p := hA0
  rw [Try.params4] at hA hval
  obtain ⟨v0, vs0, d0, ds0, p0, q0, hargs, rfl, rfl, h0, r0⟩ := trodAll_cons hA
  obtain ⟨v1, vs1, d1, ds1, p1, q1, rfl, rfl, rfl, h1, r1⟩ := trodAll_cons r0
  obtain ⟨v2, vs2, d2, ds2, p2, q2, rfl, rfl, rfl, h2, r2⟩ := trodAll_cons r1
  obtain ⟨v3, vs3, d3, ds3, p3, q3, rfl, rfl, rfl, h3, r3⟩ := trodAll_cons r2
  obtain ⟨rfl, rfl, rfl⟩ := trodAll_nil r3
  obtain rfl : args = #[v0, v1, v2, v3] := by cases args; simp_all
  obtain ⟨rfl, rfl⟩ := trodVars_none hV
  obtain ⟨a0, rfl, rfl, rfl, w0⟩ := open_string Try.underlying9 (hval 0 9 v0 rfl rfl) h0
  obtain ⟨a1, rfl, rfl, rfl, w1⟩ := open_string Try.underlying9 (hval 1 9 v1 rfl rfl) h1
  obtain ⟨a2, rfl, rfl, rfl, w2⟩ := open_string Try.underlying9 (hval 2 9 v2 rfl rfl) h2
  obtain ⟨a3, rfl, rfl, rfl, w3⟩ := open_string Try.underlying9 (hval 3 9 v3 rfl rfl) h3
  clear hA0 hval0
  simp only [List.append_nil] at hW'
  refine (walk a0 a1 a2 a3 w0 w1 w2 w3 W).mono fun e W' ⟨he, bel⟩ => ?_
  subst he
  exact ⟨_, rfl, _, _, _, [], [], [], hW', trodAll_mk1 (shut_bool Try.underlying4 _), (trodAll_cons_mk (shut_string Try.underlying9 w0) (trodAll_cons_mk (shut_string Try.underlying9 w1) (trodAll_cons_mk (shut_string Try.underlying9 w2) (trodAll_cons_mk (shut_string Try.underlying9 w3) trodAll_mk0)))), rfl, bel.frame _, fun h => by cases h⟩

theorem over : Rows.fnColumnsInjectiveAndInvertibleRow.holds Try.pinned (OpenSpec.ofChange Rows.fnColumnsInjectiveAndInvertibleSpec) :=
  OpenClaim.holds_of_wide 4 Try.f4 rfl rfl rfl rfl rfl rfl rfl ⟨rfl, rfl, rfl, rfl, rfl⟩ rfl rfl rfl rfl rfl (by kernel_rfl) Try.func4 (by kernel_rfl)
    (of_decide_eq_true (by kernel_rfl)) (by unfold Func.isWrapper; first | (rw [if_pos (by decide +kernel)]; kernel_rfl) | (rw [if_neg (by decide +kernel)]; exact ⟨rfl, rfl⟩))
    (fun os started H enc _ => lifted os started H enc)

/-- ████ THE STATEMENT ████ -/
theorem proved : Rows.FnColumnsInjectiveAndInvertibleSaid :=
  over
end Go.Proofs.Qxb6628511a.fnColumnsInjectiveAndInvertible

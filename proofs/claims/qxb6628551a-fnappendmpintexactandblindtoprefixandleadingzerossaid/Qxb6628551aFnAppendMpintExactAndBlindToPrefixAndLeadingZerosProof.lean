/-
  THE PROOF OF 'Rows.FnAppendMpintExactAndBlindToPrefixAndLeadingZerosSaid'. The frame is the guide's template at this function's number and types; the walk is ours.
-/
import Derived.Test.Qxb6628551aRows
import Derived.Test.Qxb6628551aLaw3
import Derived.WalkKit
import Derived.ProofKit
import Derived.OpenShut
import Derived.ShutString
import Derived.ChangeOld
import Derived.Below
namespace Go.Proofs.Qxb6628551a.fnAppendMpintExactAndBlindToPrefixAndLeadingZeros
open Go.ChangeShapes Go.WideShapes Go.ChangeAt Go.RowKit
open Go.ChangeMaps (open_string shut_string)
set_option linter.unusedVariables false

theorem own : ownKnob Try.prog.godebug = none := by kernel_rfl
theorem laidOut : laidOutB Try.prog = true := by kernel_rfl

/-- WHAT THE WALK IS TOLD OF A SLICE OF INTEGERS THAT CAME IN: it is nil; or it leads to a row of 'cap' cells, the numbers 'zs' (the first 'len' are its elements, the rest its spare room), each fitting its kind. -/
def IsRow (k : IntKind) (w : World) (a : Option Addr) (len cap : Nat) (zs : List Int) : Prop :=
  (a = none ∧ len = 0 ∧ cap = 0 ∧ zs = []) ∨
  ∃ x, a = some x ∧ len ≤ cap ∧ cap ≤ maxLen ∧ zs.length = cap ∧ (∀ i, i < zs.length → w.cell? (x.add i) = some (.int k (zs.getD i 0))) ∧ ∀ n ∈ zs, (Lit.int k n).wf = true

/-! ### STEP 1: THE WALK: the Go text returns true, AND WRITES NOTHING THAT WAS THERE: 'Below w.heap.size w w'' (Derived/Below.lean: '.refl', '.alloc', '.drew', '.setCell' at a new block, '.trans'). Open each 'IsRow' by 'rcases' AHEAD of 'go_enter'; part every test ahead of the walk. -/
theorem row_rd {w : World} {a : Option Addr} {len cap : Nat} {zs : List Int} (h : IsRow .u8 w a len cap zs) :
    ∃ xs : List Int, xs.length = len ∧ Rd w w.heap.size a xs ∧ (a = none → cap = 0) ∧ len ≤ cap ∧ cap ≤ maxLen ∧ Byt xs := by
  rcases h with ⟨rfl, rfl, rfl, rfl⟩ | ⟨x, rfl, hl, hm, hz, hc, hw⟩
  · exact ⟨[], rfl, .inl rfl, fun _ => rfl, Nat.le_refl _, Nat.zero_le _, fun z hz => by simp at hz⟩
  · refine ⟨zs.take len, by rw [List.length_take]; omega, ?_, (fun h => by cases h), hl, hm, fun z hz => ?_⟩
    · by_cases h0 : len = 0
      · left; rw [h0]; rfl
      · obtain ⟨b, off, rfl, hc'⟩ := ints_at hc (by omega)
        refine .inr ⟨b, off, rfl, ?_, fun j z hj => ?_⟩
        · exact World.block_lt_of_cell? w ⟨b, off + 0, none⟩ (hc' 0 (by omega))
        · have hj' : j < len := by have := (List.getElem?_eq_some_iff.1 hj).1; rw [List.length_take] at this; omega
          rw [List.getElem?_take_of_lt hj'] at hj
          rw [hc' j (by omega), List.getD, hj]
          rfl
    · have := hw z (List.mem_of_mem_take hz)
      exact bounds_u8 this

theorem walk (a0 : Option Addr) (len0 cap0 : Nat) (z0 : List Int) (a1 : Option Addr) (len1 cap1 : Nat) (z1 : List Int) (a2 : Int) (w : World) (w0 : IsRow .u8 w a0 len0 cap0 z0) (w1 : IsRow .u8 w a1 len1 cap1 z1) (w2 : (Lit.int .i64 a2).wf = true) :
    Calls Try.prog 3 #[.slice a0 len0 cap0, .slice a1 len1 cap1, .int .i64 a2] w fun e w' => e = .returned (.bool true) ∧ Below w.heap.size w w' := by
  obtain ⟨bs, rfl, hb, hc0, hl0, hm0, hB0⟩ := row_rd w0
  obtain ⟨ns, rfl, hn, hc1, hl1, hm1, hB1⟩ := row_rd w1
  clear w0 w1
  by_cases hs : bs.length + ns.length ≤ 1048576
  · by_cases hlb : bs.length ≤ 524288
    · by_cases hln : ns.length ≤ 524288
      · by_cases hi0 : 0 ≤ a2
        · obtain ⟨i, rfl⟩ := Int.eq_ofNat_of_zero_le hi0
          by_cases hi : i ≤ ns.length
          · cases a1 with
            | none =>
              obtain rfl := hn.nil rfl
              obtain rfl := hc1 rfl
              obtain rfl : i = 0 := by simpa using hi
              exact law3_nil bs a0 cap0 w hb hc0 hlb
            | some ad => exact law3_some bs ns a0 cap0 ad cap1 i w hb hc0 hn hlb hln hB1 hi
          · have h1 : ¬ (524288 : Int) < bs.length := by omega
            have h2 : ¬ (524288 : Int) < ns.length := by omega
            have h3 : (ns.length : Int) < i := by omega
            clear hb hn hc0 hc1
            go_enter Try.func3, Try.ntmps3
            go_wp2_with (go_at_call 5; refine (b5_ok _ _ _ _ _ _ _ _ hs).mono ?_; rintro e w' ⟨rfl, rfl⟩)
            go_ret
            exact ⟨rfl, Below.refl _ _⟩
        · have h1 : ¬ (524288 : Int) < bs.length := by omega
          have h2 : ¬ (524288 : Int) < ns.length := by omega
          have h3 : a2 < 0 := by omega
          clear hb hn hc0 hc1
          go_enter Try.func3, Try.ntmps3
          go_wp2_with (go_at_call 5; refine (b5_ok _ _ _ _ _ _ _ _ hs).mono ?_; rintro e w' ⟨rfl, rfl⟩)
          go_ret
          exact ⟨rfl, Below.refl _ _⟩
      · have h1 : ¬ (524288 : Int) < bs.length := by omega
        have h2 : (524288 : Int) < ns.length := by omega
        clear hb hn hc0 hc1
        go_enter Try.func3, Try.ntmps3
        go_wp2_with (go_at_call 5; refine (b5_ok _ _ _ _ _ _ _ _ hs).mono ?_; rintro e w' ⟨rfl, rfl⟩)
        go_ret
        exact ⟨rfl, Below.refl _ _⟩
    · have h1 : (524288 : Int) < bs.length := by omega
      clear hb hn hc0 hc1
      go_enter Try.func3, Try.ntmps3
      go_wp2_with (go_at_call 5; refine (b5_ok _ _ _ _ _ _ _ _ hs).mono ?_; rintro e w' ⟨rfl, rfl⟩)
      go_ret
      exact ⟨rfl, Below.refl _ _⟩
  · clear hb hn hc0 hc1
    go_enter Try.func3, Try.ntmps3
    go_wp2_with (go_at_call 5; refine (b5_no _ _ _ _ _ _ _ _ (by omega) (by omega) (by omega)).mono ?_; rintro e w' ⟨rfl, rfl⟩)
    go_ret
    exact ⟨rfl, Below.refl _ _⟩

/-! ### THE ROW's STEP: WRITTEN OUT: LEAVE IT -/
set_option maxRecDepth 100000 in
theorem lifted (os : Os) (started : os.Started) (H : Type) (enc : TypeId × Value → H) :
    ReturnsInHanded {} Try.checked os 3 .any (Rows.fnAppendMpintExactAndBlindToPrefixAndLeadingZerosSpec.pre6 enc Try.prog Try.f3 Rows.fnAppendMpintExactAndBlindToPrefixAndLeadingZerosRow.domain false) (Rows.fnAppendMpintExactAndBlindToPrefixAndLeadingZerosSpec.post enc Try.prog Try.f3 false true false false) := by
  refine returnsInHanded_of_change (C := Try.checked) own started (by kernel_rfl) Try.func3
    (ChangeSpec.witness6 (enc := enc) (C := Try.checked) false ⟨#[], #[.slice none 0 0, .slice none 0 0, .int .i64 0], []⟩ 8 (by kernel_rfl) (by kernel_rfl) (by kernel_rfl) (by kernel_rfl)) ?_
  intro W base args ds gs before hval0 hW hcnd _
  have hval : ∀ (j : Nat) t v, Try.f3.params[j]? = some t → args[j]? = some v → Value.okWide Try.prog W .any base t v := hval0
  have hW' := hW
  obtain ⟨p, q, hA0, hV, rfl, hfz, hnd⟩ := hW
  have hA : DataW.TrodAll enc Try.prog W 0 (fun _ => true) true Try.f3.params.toList args.toList ds p := hA0
  rw [Try.params3] at hA hval
  obtain ⟨v0, vs0, d0, ds0, p0, q0, hargs, rfl, rfl, h0, r0⟩ := trodAll_cons hA
  obtain ⟨v1, vs1, d1, ds1, p1, q1, rfl, rfl, rfl, h1, r1⟩ := trodAll_cons r0
  obtain ⟨v2, vs2, d2, ds2, p2, q2, rfl, rfl, rfl, h2, r2⟩ := trodAll_cons r1
  obtain ⟨rfl, rfl, rfl⟩ := trodAll_nil r2
  obtain rfl : args = #[v0, v1, v2] := by cases args; simp_all
  obtain ⟨rfl, rfl⟩ := trodVars_none hV
  obtain ⟨a0, len0, cap0, rfl⟩ := okWide_slice Try.underlying22 (hval 0 22 v0 rfl rfl)
  have k0 := h0
  have lt0 : ∀ x ∈ p0, x.block < W.heap.size := by obtain ⟨m, hm⟩ := k0; exact DataW.trod_lt m _ _ _ hm
  obtain ⟨z0, w0⟩ : ∃ zs, IsRow .u8 W a0 len0 cap0 zs := by
    obtain ⟨fuel, hf⟩ := h0
    rcases open_ints Try.underlying22 Try.underlying5 (by kernel_rfl) hf with ⟨hcs, _⟩ | ⟨x, l, c, zs, hcs, _, hl, hm, hz, _, hcell, hwz⟩
    · simp [Value.cells] at hcs
      obtain ⟨rfl, rfl, rfl⟩ := hcs
      exact ⟨[], .inl ⟨rfl, rfl, rfl, rfl⟩⟩
    · simp [Value.cells] at hcs
      obtain ⟨rfl, rfl, rfl⟩ := hcs
      exact ⟨zs, .inr ⟨_, rfl, hl, hm, by simpa using hz, hcell, hwz⟩⟩
  obtain ⟨a1, len1, cap1, rfl⟩ := okWide_slice Try.underlying22 (hval 1 22 v1 rfl rfl)
  have k1 := h1
  have lt1 : ∀ x ∈ p1, x.block < W.heap.size := by obtain ⟨m, hm⟩ := k1; exact DataW.trod_lt m _ _ _ hm
  obtain ⟨z1, w1⟩ : ∃ zs, IsRow .u8 W a1 len1 cap1 zs := by
    obtain ⟨fuel, hf⟩ := h1
    rcases open_ints Try.underlying22 Try.underlying5 (by kernel_rfl) hf with ⟨hcs, _⟩ | ⟨x, l, c, zs, hcs, _, hl, hm, hz, _, hcell, hwz⟩
    · simp [Value.cells] at hcs
      obtain ⟨rfl, rfl, rfl⟩ := hcs
      exact ⟨[], .inl ⟨rfl, rfl, rfl, rfl⟩⟩
    · simp [Value.cells] at hcs
      obtain ⟨rfl, rfl, rfl⟩ := hcs
      exact ⟨zs, .inr ⟨_, rfl, hl, hm, by simpa using hz, hcell, hwz⟩⟩
  obtain ⟨a2, rfl, rfl, rfl, w2⟩ := open_int Try.underlying3 (hval 2 3 v2 rfl rfl) h2
  clear hA0 hval0
  refine (walk a0 len0 cap0 z0 a1 len1 cap1 z1 a2 W w0 w1 w2).mono fun e W' ⟨he, bel⟩ => ?_
  subst he
  exact ⟨_, rfl, _, _, _, [], _, [], hW', trodAll_mk1 (shut_bool Try.underlying4 _), (trodAll_cons_mk (Below.trod laidOut (by kernel_rfl) (of_decide_eq_true (by kernel_rfl)) k0 bel lt0) (trodAll_cons_mk (Below.trod laidOut (by kernel_rfl) (of_decide_eq_true (by kernel_rfl)) k1 bel lt1) (trodAll_cons_mk (shut_int Try.underlying3 w2) trodAll_mk0))), rfl, bel.frame _, fun h => by cases h⟩

theorem over : Rows.fnAppendMpintExactAndBlindToPrefixAndLeadingZerosRow.holds Try.pinned (OpenSpec.ofChange Rows.fnAppendMpintExactAndBlindToPrefixAndLeadingZerosSpec) :=
  OpenClaim.holds_of_wide 3 Try.f3 rfl rfl rfl rfl rfl rfl rfl ⟨rfl, rfl, rfl, rfl, rfl⟩ rfl rfl rfl rfl rfl (by kernel_rfl) Try.func3 (by kernel_rfl)
    (of_decide_eq_true (by kernel_rfl)) (by unfold Func.isWrapper; first | (rw [if_pos (by decide +kernel)]; kernel_rfl) | (rw [if_neg (by decide +kernel)]; exact ⟨rfl, rfl⟩))
    (fun os started H enc _ => lifted os started H enc)

/-- ████ THE STATEMENT ████ -/
theorem proved : Rows.FnAppendMpintExactAndBlindToPrefixAndLeadingZerosSaid := over
end Go.Proofs.Qxb6628551a.fnAppendMpintExactAndBlindToPrefixAndLeadingZeros

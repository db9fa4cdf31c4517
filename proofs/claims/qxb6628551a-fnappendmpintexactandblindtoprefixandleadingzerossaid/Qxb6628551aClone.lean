import Derived.Test.Qxb6628551aCmp
namespace Go.Proofs.Qxb6628551a
open Go.ChangeShapes Go.WideShapes Go.ChangeAt Go.RowKit

set_option maxHeartbeats 1000000 in
theorem clone_nil (w : World) :
    Calls Try.prog 6 #[.slice none 0 0] w fun e w' => ∃ v, e = .returned v ∧ Owns w' w.heap.size v [] ∧ Below w.heap.size w w' := by
  have he := fun wx : World => Lib.run_eql_slice_nil (P := Try.prog) wx 22 5 none 0 0 0 0 Try.underlying22
  go_enter Try.func6, Try.ntmps6
  go_wp2_with fail
  go_ret
  exact ⟨_, rfl, World.ownsRow_nil _ _ _ _, Below.refl _ _⟩

theorem set_mid {α : Type} (A B : List α) (z y : α) (k : Nat) (hk : A.length = k) : (A ++ z :: B).set k y = A ++ y :: B := by
  subst hk; simp

/-- the row while it is filled: the first k bytes of xs, then zeros -/
def filled (xs : List Int) (k : Nat) : List Value := (cellsOf xs).take k ++ List.replicate (xs.length - k) (Value.int .u8 0)

theorem filled_zero (xs : List Int) : filled xs 0 = List.replicate xs.length (Value.int .u8 0) := by simp [filled]
theorem filled_all (xs : List Int) : filled xs xs.length = cellsOf xs := by
  unfold filled
  rw [List.take_of_length_le (by rw [cellsOf_length]; omega), Nat.sub_self]; simp
theorem filled_set (xs : List Int) (k : Nat) (z : Int) (hz : xs[k]? = some z) : (filled xs k).set k (.int .u8 z) = filled xs (k + 1) := by
  have hk : k < xs.length := (List.getElem?_eq_some_iff.1 hz).1
  have e : (cellsOf xs)[k]? = some (.int .u8 z) := by simp [cellsOf, hz]
  unfold filled
  rw [show xs.length - k = (xs.length - (k + 1)) + 1 from by omega, List.replicate_succ, set_mid _ _ _ _ _ (by rw [List.length_take, cellsOf_length]; omega), List.take_add_one, e]
  simp
theorem filled_at (xs : List Int) (k : Nat) (hk : k < xs.length) : (filled xs k)[k]? = some (.int .u8 0) := by
  unfold filled
  rw [List.getElem?_append_right (by rw [List.length_take, cellsOf_length]; omega)]
  rw [List.length_take, cellsOf_length, show k - min k xs.length = 0 from by omega, show xs.length - k = (xs.length - (k + 1)) + 1 from by omega]
  rfl

set_option maxHeartbeats 1000000 in
theorem clone_some (xs : List Int) (ad : Addr) (c : Nat) (w : World) (hr : Rd w w.heap.size (some ad) xs) (hn : xs.length ≤ 1048576) :
    Calls Try.prog 6 #[.slice (some ad) xs.length c] w fun e w' => ∃ v, e = .returned v ∧ Owns w' w.heap.size v xs ∧ Below w.heap.size w w' := by
  obtain ⟨i0, hi, hz0, hz1, hz2⟩ := info_parts Try.info5
  have he := fun wx : World => Lib.run_eql_slice_nil (P := Try.prog) wx 22 5 (some ad) xs.length c 0 0 Try.underlying22
  have H1 : Hid (Rd w w.heap.size (some ad) xs) := hr
  clear hr
  go_enter Try.func6, Try.ntmps6
  go_wp2_with (at_make; refine wpList_make_full _ rfl _ _ 22 rfl w.heap.size 5 i0 (.int .u8 0) 1 Try.underlying22 hi hz0 hz1 _ _ _ _ xs.length rfl rfl (by first | rfl | omega) (by first | rfl | omega) (by rw [hz2]; omega) (by unfold maxLen; omega) (Nat.le_refl _) ?_; intro w1 hown hgrow)
  have HO : Hid (w1.ownsRow w.heap.size 5 1 (.slice (some ⟨w.heap.size, 0, none⟩) xs.length xs.length) xs.length (filled xs 0)) := by
    rw [filled_zero]
    have := toList_madeCells_one (.int .u8 0) (xs.length * 1)
    rw [Nat.mul_one] at this
    rw [← this]
    rw [Nat.mul_one] at hown
    exact hown
  have HB : Hid (Below w.heap.size w w1) := (Below.refl _ _).grown hgrow (Nat.le_refl _) (fun k hk => by cases hk)
  clear hown hgrow he
  go_loopw [4] (fun i wr => ∃ k : Nat, k ≤ xs.length ∧ i = .int .i64 k ∧ Hid (wr.ownsRow w.heap.size 5 1 (.slice (some ⟨w.heap.size, 0, none⟩) xs.length xs.length) xs.length (filled xs k)) ∧ Hid (Below w.heap.size w wr)) (fun i _ => xs.length - (intOf i).toNat)
  case atStart => exact ⟨0, Nat.zero_le _, rfl, HO, HB⟩
  case round =>
    obtain ⟨k, hk, rfl, ho, hb⟩ := hrel
    clear HO HB
    by_cases hlt : k < xs.length
    · have hlt' : (k : Int) < xs.length := by omega
      obtain ⟨z, hz⟩ : ∃ z, xs[k]? = some z := ⟨_, List.getElem?_eq_getElem hlt⟩
      obtain ⟨g, off, hg, hc⟩ := (H1.out.later hb.out (Nat.le_refl _)).at (by omega)
      obtain rfl := Option.some.inj hg
      have d1 := hc k z hz
      have d2 := (ho.out.cellAt k (by omega)).trans (filled_at xs k hlt)
      have d3 := ho.out.frozenAt k
      have HO2 : Hid ((wr.setCell ⟨w.heap.size, k, none⟩ (.int .u8 z)).ownsRow w.heap.size 5 1 (.slice (some ⟨w.heap.size, 0, none⟩) xs.length xs.length) xs.length (filled xs (k + 1))) := by
        have := (ho.out.stored k (.int .u8 z)).1
        rw [filled_set xs k z hz] at this
        exact this
      have HB2 : Hid (Below w.heap.size w (wr.setCell ⟨w.heap.size, k, none⟩ (.int .u8 z))) := hb.out.setCell (Nat.le_refl _) _
      clear hc hz ho hb H1 hg
      go_wp2_with fail
      go_roundw
      case rel => exact ⟨k + 1, by omega, by go_num, HO2, HB2⟩
      case measure => simp [intOf]; omega
    · have hlt' : ¬ (k : Int) < xs.length := by omega
      obtain rfl : k = xs.length := by omega
      go_wp2_with fail
      go_ret
      refine ⟨_, rfl, ?_, hb.out⟩
      have := ho.out
      rw [filled_all] at this
      exact this
end Go.Proofs.Qxb6628551a

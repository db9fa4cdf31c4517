import Derived.Test.Qxb6628021aRows
import Derived.Test.Qxb6628021aPlain
import Derived.WalkKit
import Derived.ProofKit
namespace Go.Proofs.Qxb6628021a
open Go.ChangeShapes Go.WideShapes Go.ChangeAt Go.RowKit Plain

theorem extract_data' (s : ByteArray) (a b : Nat) : (s.extract a b).data.toList = (s.data.toList.drop a).take (b - a) := by
  rw [ByteArray.data_extract, Array.toList_extract, List.extract_eq_take_drop]

theorem at2_of_extract (s : ByteArray) (a b : UInt8) (h : 2 ≤ s.size) : ((s.extract 0 2).toList == [a, b]) = at2 s.data.toList 0 a b := by
  rw [ByteArray.toList_eq, extract_data']
  have hl : s.data.toList.length = s.size := rfl
  match hm : s.data.toList with
  | [] => rw [hm] at hl; simp at hl; omega
  | [x] => rw [hm] at hl; simp at hl; omega
  | x :: y :: t =>
    simp [at2]
theorem at2_drop (l : List UInt8) (i : Nat) (a b : UInt8) : at2 (l.drop i) 0 a b = at2 l i a b := by
  unfold at2
  rw [List.getElem?_drop, List.getElem?_drop]
  rfl
theorem at2_tail (s : ByteArray) (i : Nat) (a b : UInt8) : at2 (s.extract i s.size).data.toList 0 a b = at2 s.data.toList i a b := by
  rw [extract_data', List.take_of_length_le (by rw [List.length_drop]; exact Nat.le_refl _), at2_drop]

set_option maxHeartbeats 400000 in
theorem pre_any (s : ByteArray) (a b : UInt8) (w : World) (hs : s.size ≤ maxLen) :
    Calls Try.prog 10 #[.string s, .string ⟨#[a, b]⟩] w fun e w' => e = .returned (.bool (at2 s.data.toList 0 a b)) ∧ w' = w := by
  unfold maxLen at hs
  by_cases h : 2 ≤ s.size
  · have H : Hid (((s.extract 0 2).toList == [a, b]) = at2 s.data.toList 0 a b) := at2_of_extract s a b h
    go_enter Try.func10, Try.ntmps10
    go_wp2
    go_ret
    exact ⟨by rw [← H.out]; rfl, rfl⟩
  · have H : Hid (at2 s.data.toList 0 a b = false) := at2_short _ _ (by show s.size ≤ _; omega)
    go_enter Try.func10, Try.ntmps10
    go_wp2
    go_ret
    exact ⟨by rw [H.out]; rfl, rfl⟩

set_option maxHeartbeats 400000 in
theorem hasPrefix_any (s : ByteArray) (a b : UInt8) (w : World) (hs : s.size ≤ maxLen) :
    Calls Try.prog 9 #[.string s, .string ⟨#[a, b]⟩] w fun e w' => e = .returned (.bool (at2 s.data.toList 0 a b)) ∧ w' = w := by
  go_enter Try.func9, Try.ntmps9
  go_wp2_with (go_at_call 10; refine (pre_any _ _ _ _ hs).mono ?_; rintro e w' ⟨rfl, rfl⟩)
  go_ret
  exact ⟨rfl, rfl⟩

theorem hasPrefix_at (s : ByteArray) (i : Nat) (a b : UInt8) (w : World) (v : Bool) (hs : s.size ≤ maxLen) (hv : at2 s.data.toList i a b = v) :
    Calls Try.prog 9 #[.string (s.extract i s.size), .string ⟨#[a, b]⟩] w fun e w' => e = .returned (.bool v) ∧ w' = w := by
  have h := hasPrefix_any (s.extract i s.size) a b w (by simp only [ByteArray.size_extract]; omega)
  rw [at2_tail, hv] at h
  exact h

theorem ret_int {k : IntKind} {a b : Int} (h : a = b) : Ending.returned (.int k a) = .returned (.int k b) := by rw [h]

set_option maxHeartbeats 1000000 in
theorem commentEnd_any (s : ByteArray) (i0 : Nat) (w : World) (hs : s.size ≤ 1048576) (hi : i0 ≤ s.size) :
    Calls Try.prog 6 #[.string s, .int .i64 i0] w fun e w' => e = .returned (.int .i64 (CE s.data.toList i0 0)) ∧ w' = w := by
  have hm : s.size ≤ maxLen := by unfold maxLen; omega
  go_enter Try.func6, Try.ntmps6
  go_wp2
  go_loop [1, 5] (fun i t => ∃ (k : Nat) (d : Int), k ≤ s.size ∧ i = .int .i64 k ∧ t = .int .i64 d ∧ -1048576 ≤ d + k ∧ d - k ≤ 1048576 ∧ Hid (CE s.data.toList k d = CE s.data.toList i0 0)) (fun i _ => s.size - (intOf i).toNat)
  case atStart => exact ⟨i0, 0, hi, rfl, rfl, by omega, by omega, rfl⟩
  case round =>
    obtain ⟨k, d, hk, rfl, rfl, hd1, hd2, hCE⟩ := hrel
    by_cases hlt : k < s.size
    · cases h1 : at2 s.data.toList k 47 42
      · have H1 : Hid (at2 s.data.toList k 47 42 = false) := h1
        cases h2 : at2 s.data.toList k 42 47
        · have HC : Hid (CE s.data.toList (k + 1) d = CE s.data.toList i0 0) := by rw [← hCE.out, CE_other d hlt h1 h2]; rfl
          have H2 : Hid (at2 s.data.toList k 42 47 = false) := h2
          clear h1 h2 hCE
          go_wp2_with fail
          refine (hasPrefix_at s k 47 42 _ false hm H1.out).mono ?_
          rintro e w' ⟨rfl, rfl⟩
          go_wp2_with fail
          refine (hasPrefix_at s k 42 47 _ false hm H2.out).mono ?_
          rintro e w' ⟨rfl, rfl⟩
          go_wp2_with fail
          go_round
          case rel => exact ⟨k + 1, d, by omega, by go_num, rfl, by omega, by omega, HC⟩
          case measure => simp [intOf]; omega
        · have HL : k + 2 ≤ s.size := at2_lt h2
          have H2 : Hid (at2 s.data.toList k 42 47 = true) := h2
          by_cases hd : d = 1
          · subst hd
            have HC : Hid (CE s.data.toList i0 0 = k + 2) := by rw [← hCE.out, CE_last h1 h2]; rfl
            clear h1 h2 hCE
            go_wp2_with fail
            refine (hasPrefix_at s k 47 42 _ false hm H1.out).mono ?_
            rintro e w' ⟨rfl, rfl⟩
            go_wp2_with fail
            refine (hasPrefix_at s k 42 47 _ true hm H2.out).mono ?_
            rintro e w' ⟨rfl, rfl⟩
            go_wp2_with fail
            go_ret
            exact ⟨ret_int (by rw [HC.out]; rfl), rfl⟩
          · have HC : Hid (CE s.data.toList (k + 2) (d - 1) = CE s.data.toList i0 0) := by rw [← hCE.out, CE_close h1 h2 hd]; rfl
            have hz : (d - 1 == 0) = false := by simp; omega
            clear h1 h2 hCE
            go_wp2_with fail
            refine (hasPrefix_at s k 47 42 _ false hm H1.out).mono ?_
            rintro e w' ⟨rfl, rfl⟩
            go_wp2_with fail
            refine (hasPrefix_at s k 42 47 _ true hm H2.out).mono ?_
            rintro e w' ⟨rfl, rfl⟩
            go_wp2_with fail
            go_round
            case rel => exact ⟨k + 2, d - 1, by omega, by go_num, rfl, by omega, by omega, HC⟩
            case measure => simp [intOf]; omega
      · have HL : k + 2 ≤ s.size := at2_lt h1
        have H1 : Hid (at2 s.data.toList k 47 42 = true) := h1
        have HC : Hid (CE s.data.toList (k + 2) (d + 1) = CE s.data.toList i0 0) := by rw [← hCE.out, CE_open d h1]; rfl
        clear h1 hCE
        go_wp2_with fail
        refine (hasPrefix_at s k 47 42 _ true hm H1.out).mono ?_
        rintro e w' ⟨rfl, rfl⟩
        go_wp2_with fail
        go_round
        case rel => exact ⟨k + 2, d + 1, by omega, by go_num, rfl, by omega, by omega, HC⟩
        case measure => simp [intOf]; omega
    · have HC : Hid (CE s.data.toList i0 0 = k) := by rw [← hCE.out, CE_end d (by show s.size ≤ k; omega)]; rfl
      clear hCE
      go_wp2_with fail
      go_ret
      exact ⟨ret_int (by rw [HC.out]), rfl⟩

end Go.Proofs.Qxb6628021a

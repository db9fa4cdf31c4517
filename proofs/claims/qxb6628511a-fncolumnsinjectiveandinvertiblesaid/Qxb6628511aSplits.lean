import Derived.Test.Qxb6628511aCols
import Derived.BigQuiet
import Derived.Deep.QuietTactic
namespace Go.Proofs.Qxb6628511a
open Go.ChangeShapes Go.WideShapes Go.ChangeAt Go.RowKit

theorem bytes_ok (a r : ByteArray) (w : World) (h : a.size + r.size ≤ 1048576) :
    Calls Try.prog 5 #[.string a, .string r] w fun e w' => e = .returned (.bool true) ∧ w = w' := by
  have h1 : ¬ (1048576 : Int) < a.size := by omega
  have h2 : ¬ (1048576 : Int) < r.size := by omega
  have h3 : ¬ (1048576 : Int) < a.size + r.size := by omega
  go_enter Try.func5, Try.ntmps5
  go_wp2
  go_ret
  exact ⟨rfl, rfl⟩
theorem bytes_no (a r : ByteArray) (w : World) (ha : a.size ≤ maxLen) (hr : r.size ≤ maxLen) (h : 1048576 < a.size + r.size) :
    Calls Try.prog 5 #[.string a, .string r] w fun e w' => e = .returned (.bool false) ∧ w = w' := by
  unfold maxLen at ha hr
  by_cases h1 : (1048576 : Int) < a.size
  · go_enter Try.func5, Try.ntmps5
    go_wp2
    go_ret
    exact ⟨rfl, rfl⟩
  · by_cases h2 : (1048576 : Int) < r.size
    · go_enter Try.func5, Try.ntmps5
      go_wp2
      go_ret
      exact ⟨rfl, rfl⟩
    · have h3 : (1048576 : Int) < a.size + r.size := by omega
      go_enter Try.func5, Try.ntmps5
      go_wp2
      go_ret
      exact ⟨rfl, rfl⟩

theorem empty_empty : (⟨#[]⟩ : ByteArray).toList.isEmpty = true := by rw [ByteArray.toList_eq]; rfl

set_option maxHeartbeats 1000000 in
theorem law_00 (a r : ByteArray) (w : World) (h : a.size + r.size ≤ 1048576) (hna : a.toList.isEmpty = true) (hnr : r.toList.isEmpty = true) :
    Calls Try.prog 3 #[.string a, .string r] w fun e w' => e = .returned (.bool true) ∧ Below w.heap.size w w' := by
  have h1 : ¬ (1048576 : Int) < a.size := by omega
  have h2 : ¬ (1048576 : Int) < r.size := by omega
  have h3 : ¬ (1048576 : Int) < a.size + r.size := by omega
  go_enter Try.func3, Try.ntmps3
  go_wp2_with (go_at_call 5; refine (bytes_ok _ _ _ h).mono ?_; rintro e w' ⟨rfl, rfl⟩)
  refine (cols_00 a r _ hna hnr).mono ?_
  rintro e w1 ⟨rfl, hb1⟩
  go_wp2_with fail
  refine (cols_00 a _ _ hna empty_empty).mono ?_
  rintro e w2 ⟨rfl, hb2⟩
  go_wp2_with fail
  refine (cols_00 _ r _ empty_empty hnr).mono ?_
  rintro e w3 ⟨rfl, hb3⟩
  have hz1 := hb1.size
  have hz2 := hb2.size
  have HB : Hid (Below w.heap.size w w3) := (hb1.trans (hb2.mono hz1)).trans (hb3.mono (Nat.le_trans hz1 hz2))
  clear   hb1 hb2 hb3 hz1 hz2
  go_wp2_with fail
  refine wp_loop_rounds 2 ?_
  rw [rounds_succ]
  go_wp2_with fail
  refine wp_loop_rounds 2 ?_
  rw [rounds_succ]
  go_wp2_with fail
  go_ret
  exact ⟨by first | rfl | simp, by first | exact HB.out | exact below_drewN HB.out _ | exact below_drewN (below_drewN HB.out _) _⟩
set_option maxHeartbeats 1000000 in
theorem law_10 (a r : ByteArray) (w : World) (h : a.size + r.size ≤ 1048576) (hna : a.toList.isEmpty = false) (hnr : r.toList.isEmpty = true) :
    Calls Try.prog 3 #[.string a, .string r] w fun e w' => e = .returned (.bool true) ∧ Below w.heap.size w w' := by
  have h1 : ¬ (1048576 : Int) < a.size := by omega
  have h2 : ¬ (1048576 : Int) < r.size := by omega
  have h3 : ¬ (1048576 : Int) < a.size + r.size := by omega
  go_enter Try.func3, Try.ntmps3
  go_wp2_with (go_at_call 5; refine (bytes_ok _ _ _ h).mono ?_; rintro e w' ⟨rfl, rfl⟩)
  refine (cols_10 a r _ hna hnr).mono ?_
  rintro e w1 ⟨v, rfl, hb1, g1, cap1, rfl, hl1, hu1, c10, c11⟩
  go_wp2_with fail
  refine (cols_10 a _ _ hna empty_empty).mono ?_
  rintro e w2 ⟨v, rfl, hb2, g2, cap2, rfl, hl2, hu2, c20, c21⟩
  go_wp2_with fail
  refine (cols_00 _ r _ empty_empty hnr).mono ?_
  rintro e w3 ⟨rfl, hb3⟩
  have hz1 := hb1.size
  have hz2 := hb2.size
  have d10 : w3.cell? ⟨g1, 0, none⟩ = some (.string ⟨#[97, 110, 99, 104, 111, 114, 95, 99, 111, 108, 117, 109, 110, 95, 105, 100]⟩) := by rw [hb3.cell (by show g1 < _; omega), hb2.cell (by show g1 < _; omega)]; exact c10
  have d11 : w3.cell? ⟨g1, 1, none⟩ = some (.string a) := by rw [hb3.cell (by show g1 < _; omega), hb2.cell (by show g1 < _; omega)]; exact c11
  have d20 : w3.cell? ⟨g2, 0, none⟩ = some (.string ⟨#[97, 110, 99, 104, 111, 114, 95, 99, 111, 108, 117, 109, 110, 95, 105, 100]⟩) := by rw [hb3.cell (by show g2 < _; omega)]; exact c20
  have d21 : w3.cell? ⟨g2, 1, none⟩ = some (.string a) := by rw [hb3.cell (by show g2 < _; omega)]; exact c21
  have HB : Hid (Below w.heap.size w w3) := (hb1.trans (hb2.mono hz1)).trans (hb3.mono (Nat.le_trans hz1 hz2))
  clear c10 c11 c20 c21 hl1 hu1 hl2 hu2 hb1 hb2 hb3 hz1 hz2
  go_wp2_with fail
  refine wp_loop_rounds 2 ?_
  rw [rounds_succ]
  go_wp2_with fail
  go_quiet (fail)
  go_wp2_with fail
  rw [rounds_succ]
  go_wp2_with fail
  refine wp_loop_rounds 2 ?_
  rw [rounds_succ]
  go_wp2_with fail
  go_ret
  exact ⟨by first | rfl | simp, by first | exact HB.out | exact below_drewN HB.out _ | exact below_drewN (below_drewN HB.out _) _⟩
set_option maxHeartbeats 1000000 in
theorem law_01 (a r : ByteArray) (w : World) (h : a.size + r.size ≤ 1048576) (hna : a.toList.isEmpty = true) (hnr : r.toList.isEmpty = false) :
    Calls Try.prog 3 #[.string a, .string r] w fun e w' => e = .returned (.bool true) ∧ Below w.heap.size w w' := by
  have h1 : ¬ (1048576 : Int) < a.size := by omega
  have h2 : ¬ (1048576 : Int) < r.size := by omega
  have h3 : ¬ (1048576 : Int) < a.size + r.size := by omega
  go_enter Try.func3, Try.ntmps3
  go_wp2_with (go_at_call 5; refine (bytes_ok _ _ _ h).mono ?_; rintro e w' ⟨rfl, rfl⟩)
  refine (cols_01 a r _ hna hnr).mono ?_
  rintro e w1 ⟨v, rfl, hb1, g1, cap1, rfl, hl1, hu1, c10, c11⟩
  go_wp2_with fail
  refine (cols_00 a _ _ hna empty_empty).mono ?_
  rintro e w2 ⟨rfl, hb2⟩
  go_wp2_with fail
  refine (cols_01 _ r _ empty_empty hnr).mono ?_
  rintro e w3 ⟨v, rfl, hb3, g3, cap3, rfl, hl3, hu3, c30, c31⟩
  have hz1 := hb1.size
  have hz2 := hb2.size
  have d10 : w3.cell? ⟨g1, 0, none⟩ = some (.string ⟨#[114, 101, 116, 117, 114, 110, 95, 99, 111, 108, 117, 109, 110, 95, 105, 100]⟩) := by rw [hb3.cell (by show g1 < _; omega), hb2.cell (by show g1 < _; omega)]; exact c10
  have d11 : w3.cell? ⟨g1, 1, none⟩ = some (.string r) := by rw [hb3.cell (by show g1 < _; omega), hb2.cell (by show g1 < _; omega)]; exact c11
  have d30 : w3.cell? ⟨g3, 0, none⟩ = some (.string ⟨#[114, 101, 116, 117, 114, 110, 95, 99, 111, 108, 117, 109, 110, 95, 105, 100]⟩) := by exact c30
  have d31 : w3.cell? ⟨g3, 1, none⟩ = some (.string r) := by exact c31
  have HB : Hid (Below w.heap.size w w3) := (hb1.trans (hb2.mono hz1)).trans (hb3.mono (Nat.le_trans hz1 hz2))
  clear c10 c11 c30 c31 hl1 hu1 hl3 hu3 hb1 hb2 hb3 hz1 hz2
  go_wp2_with fail
  refine wp_loop_rounds 2 ?_
  rw [rounds_succ]
  go_wp2_with fail
  refine wp_loop_rounds 2 ?_
  rw [rounds_succ]
  go_wp2_with fail
  go_quiet (fail)
  go_wp2_with fail
  rw [rounds_succ]
  go_wp2_with fail
  go_ret
  exact ⟨by first | rfl | simp, by first | exact HB.out | exact below_drewN HB.out _ | exact below_drewN (below_drewN HB.out _) _⟩
set_option maxHeartbeats 1000000 in
theorem law_11 (a r : ByteArray) (w : World) (h : a.size + r.size ≤ 1048576) (hna : a.toList.isEmpty = false) (hnr : r.toList.isEmpty = false) :
    Calls Try.prog 3 #[.string a, .string r] w fun e w' => e = .returned (.bool true) ∧ Below w.heap.size w w' := by
  have h1 : ¬ (1048576 : Int) < a.size := by omega
  have h2 : ¬ (1048576 : Int) < r.size := by omega
  have h3 : ¬ (1048576 : Int) < a.size + r.size := by omega
  go_enter Try.func3, Try.ntmps3
  go_wp2_with (go_at_call 5; refine (bytes_ok _ _ _ h).mono ?_; rintro e w' ⟨rfl, rfl⟩)
  refine (cols_11 a r _ hna hnr).mono ?_
  rintro e w1 ⟨v, rfl, hb1, g1, cap1, rfl, hl1, hu1, c10, c11, c12, c13⟩
  go_wp2_with fail
  refine (cols_10 a _ _ hna empty_empty).mono ?_
  rintro e w2 ⟨v, rfl, hb2, g2, cap2, rfl, hl2, hu2, c20, c21⟩
  go_wp2_with fail
  refine (cols_01 _ r _ empty_empty hnr).mono ?_
  rintro e w3 ⟨v, rfl, hb3, g3, cap3, rfl, hl3, hu3, c30, c31⟩
  have hz1 := hb1.size
  have hz2 := hb2.size
  have d10 : w3.cell? ⟨g1, 0, none⟩ = some (.string ⟨#[97, 110, 99, 104, 111, 114, 95, 99, 111, 108, 117, 109, 110, 95, 105, 100]⟩) := by rw [hb3.cell (by show g1 < _; omega), hb2.cell (by show g1 < _; omega)]; exact c10
  have d11 : w3.cell? ⟨g1, 1, none⟩ = some (.string a) := by rw [hb3.cell (by show g1 < _; omega), hb2.cell (by show g1 < _; omega)]; exact c11
  have d12 : w3.cell? ⟨g1, 2, none⟩ = some (.string ⟨#[114, 101, 116, 117, 114, 110, 95, 99, 111, 108, 117, 109, 110, 95, 105, 100]⟩) := by rw [hb3.cell (by show g1 < _; omega), hb2.cell (by show g1 < _; omega)]; exact c12
  have d13 : w3.cell? ⟨g1, 3, none⟩ = some (.string r) := by rw [hb3.cell (by show g1 < _; omega), hb2.cell (by show g1 < _; omega)]; exact c13
  have d20 : w3.cell? ⟨g2, 0, none⟩ = some (.string ⟨#[97, 110, 99, 104, 111, 114, 95, 99, 111, 108, 117, 109, 110, 95, 105, 100]⟩) := by rw [hb3.cell (by show g2 < _; omega)]; exact c20
  have d21 : w3.cell? ⟨g2, 1, none⟩ = some (.string a) := by rw [hb3.cell (by show g2 < _; omega)]; exact c21
  have d30 : w3.cell? ⟨g3, 0, none⟩ = some (.string ⟨#[114, 101, 116, 117, 114, 110, 95, 99, 111, 108, 117, 109, 110, 95, 105, 100]⟩) := by exact c30
  have d31 : w3.cell? ⟨g3, 1, none⟩ = some (.string r) := by exact c31
  have HB : Hid (Below w.heap.size w w3) := (hb1.trans (hb2.mono hz1)).trans (hb3.mono (Nat.le_trans hz1 hz2))
  clear c10 c11 c12 c13 c20 c21 c30 c31 hl1 hu1 hl2 hu2 hl3 hu3 hb1 hb2 hb3 hz1 hz2
  go_wp2_with fail
  refine wp_loop_rounds 2 ?_
  rw [rounds_succ]
  go_wp2_with fail
  go_quiet (fail)
  go_wp2_with fail
  rw [rounds_succ]
  go_wp2_with fail
  refine wp_loop_rounds 2 ?_
  rw [rounds_succ]
  go_wp2_with fail
  go_quiet (fail)
  go_wp2_with fail
  rw [rounds_succ]
  go_wp2_with fail
  go_ret
  exact ⟨by first | rfl | simp, by first | exact HB.out | exact below_drewN HB.out _ | exact below_drewN (below_drewN HB.out _) _⟩
end Go.Proofs.Qxb6628511a

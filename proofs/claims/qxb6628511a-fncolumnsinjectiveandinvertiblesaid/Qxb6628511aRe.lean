import Derived.Test.Qxb6628511aEq
namespace Go.Proofs.Qxb6628511a
open Go.ChangeShapes Go.WideShapes Go.ChangeAt Go.RowKit

set_option maxHeartbeats 1000000 in
theorem re_00 (w : World) :
    Calls Try.prog 9 #[.slice none 0 0] w fun e w' => e = .returned (.tuple #[.string ⟨#[]⟩, .string ⟨#[]⟩, .bool true]) ∧ Below w.heap.size w w' := by
  go_enter Try.func9, Try.ntmps9
  go_wp2_with fail
  refine wp_loop_rounds 1 ?_
  rw [rounds_succ]
  go_wp2_with fail
  go_ret3
  exact ⟨rfl, Below.refl _ _⟩

set_option maxHeartbeats 1000000 in
theorem re_10 (a : ByteArray) (g cap : Nat) (w : World) (hna : a.toList.isEmpty = false) (c0 : w.cell? ⟨g, 0, none⟩ = some (.string keyA)) (c1 : w.cell? ⟨g, 1, none⟩ = some (.string a)) :
    Calls Try.prog 9 #[.slice (some ⟨g, 0, none⟩) 1 cap] w fun e w' => e = .returned (.tuple #[.string a, .string ⟨#[]⟩, .bool true]) ∧ Below w.heap.size w w' := by
  unfold keyA at c0
  go_enter Try.func9, Try.ntmps9
  go_wp2_with fail
  refine wp_loop_rounds 2 ?_
  rw [rounds_succ]
  go_wp2_with fail
  rw [rounds_succ]
  go_wp2_with fail
  go_ret3
  exact ⟨rfl, (Below.refl _ _).alloc (Nat.le_refl _) _⟩

set_option maxHeartbeats 1000000 in
theorem re_01 (r : ByteArray) (g cap : Nat) (w : World) (hnr : r.toList.isEmpty = false) (c0 : w.cell? ⟨g, 0, none⟩ = some (.string keyR)) (c1 : w.cell? ⟨g, 1, none⟩ = some (.string r)) :
    Calls Try.prog 9 #[.slice (some ⟨g, 0, none⟩) 1 cap] w fun e w' => e = .returned (.tuple #[.string ⟨#[]⟩, .string r, .bool true]) ∧ Below w.heap.size w w' := by
  unfold keyR at c0
  go_enter Try.func9, Try.ntmps9
  go_wp2_with fail
  refine wp_loop_rounds 2 ?_
  rw [rounds_succ]
  go_wp2_with fail
  rw [rounds_succ]
  go_wp2_with fail
  go_ret3
  exact ⟨rfl, (Below.refl _ _).alloc (Nat.le_refl _) _⟩

set_option maxHeartbeats 1000000 in
theorem re_11 (a r : ByteArray) (g cap : Nat) (w : World) (hg : g < w.heap.size) (hna : a.toList.isEmpty = false) (hnr : r.toList.isEmpty = false) (c0 : w.cell? ⟨g, 0, none⟩ = some (.string keyA)) (c1 : w.cell? ⟨g, 1, none⟩ = some (.string a))
    (c2 : w.cell? ⟨g, 2, none⟩ = some (.string keyR)) (c3 : w.cell? ⟨g, 3, none⟩ = some (.string r)) :
    Calls Try.prog 9 #[.slice (some ⟨g, 0, none⟩) 2 cap] w fun e w' => e = .returned (.tuple #[.string a, .string r, .bool true]) ∧ Below w.heap.size w w' := by
  unfold keyA at c0
  unfold keyR at c2
  go_enter Try.func9, Try.ntmps9
  go_wp2_with fail
  refine wp_loop_rounds 3 ?_
  rw [rounds_succ]
  go_wp2_with fail
  rw [rounds_succ]
  go_wp2_with fail
  rw [rounds_succ]
  go_wp2_with fail
  go_ret3
  exact ⟨rfl, ((Below.refl _ _).alloc (Nat.le_refl _) _).alloc (by simp) _⟩

theorem re_any (a r : ByteArray) (v : Value) (w : World) (h : IsCols w v (colsOf a r)) :
    Calls Try.prog 9 #[v] w fun e w' => e = .returned (.tuple #[.string a, .string r, .bool true]) ∧ Below w.heap.size w w' := by
  have nilCase : ∀ g cap (w : World), Calls Try.prog 9 #[.slice (some ⟨g, 0, none⟩) 0 cap] w fun e w' => e = .returned (.tuple #[.string ⟨#[]⟩, .string ⟨#[]⟩, .bool true]) ∧ Below w.heap.size w w' := by
    intro g cap w
    go_enter Try.func9, Try.ntmps9
    go_wp2_with fail
    refine wp_loop_rounds 1 ?_
    rw [rounds_succ]
    go_wp2_with fail
    go_ret3
    exact ⟨rfl, Below.refl _ _⟩
  cases ha : a.toList.isEmpty
  · cases hr : r.toList.isEmpty
    · rcases h with ⟨h, _⟩ | ⟨g, cap, rfl, hg, hc⟩
      · simp [colsOf, ha, hr] at h
      · simp only [colsOf, ha, hr, Bool.false_eq_true, if_false, List.cons_append, List.nil_append] at hc ⊢
        have e0 := hc 0 (keyA, a) rfl
        have e1 := hc 1 (keyR, r) rfl
        exact re_11 a r g cap w hg ha hr e0.1 e0.2 e1.1 e1.2
    · have er := (isEmpty_iff r).1 hr
      rcases h with ⟨h, _⟩ | ⟨g, cap, rfl, hg, hc⟩
      · simp [colsOf, ha, hr] at h
      · simp only [colsOf, ha, hr, Bool.false_eq_true, if_false, if_true, List.append_nil] at hc ⊢
        have e0 := hc 0 (keyA, a) rfl
        rw [er]
        exact re_10 a g cap w ha e0.1 e0.2
  · have ea := (isEmpty_iff a).1 ha
    cases hr : r.toList.isEmpty
    · rcases h with ⟨h, _⟩ | ⟨g, cap, rfl, hg, hc⟩
      · simp [colsOf, ha, hr] at h
      · simp only [colsOf, ha, hr, Bool.false_eq_true, if_false, if_true, List.nil_append] at hc ⊢
        have e0 := hc 0 (keyR, r) rfl
        rw [ea]
        exact re_01 r g cap w hr e0.1 e0.2
    · have er := (isEmpty_iff r).1 hr
      rcases h with ⟨_, rfl⟩ | ⟨g, cap, rfl, hg, hc⟩
      · rw [ea, er]; exact re_00 w
      · simp only [colsOf, ha, hr, if_true, List.append_nil, List.length_nil]
        rw [ea, er]; exact nilCase g cap w
end Go.Proofs.Qxb6628511a

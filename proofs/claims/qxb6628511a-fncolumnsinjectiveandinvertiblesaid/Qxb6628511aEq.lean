import Derived.Test.Qxb6628511aSplits
import Derived.BigQuiet
import Derived.Deep.QuietTactic
namespace Go.Proofs.Qxb6628511a
open Go.ChangeShapes Go.WideShapes Go.ChangeAt Go.RowKit

abbrev Col := ByteArray × ByteArray
/-- the columns xs lie at block g -/
def ColsAt (w : World) (g : Nat) (xs : List Col) : Prop :=
  ∀ j c, xs[j]? = some c → w.cell? ⟨g, j * 2, none⟩ = some (.string c.1) ∧ w.cell? ⟨g, j * 2 + 1, none⟩ = some (.string c.2)

theorem beq_bytes (a b : ByteArray) : (a.toList == b.toList) = decide (a = b) := by
  rw [ByteArray.toList_eq, ByteArray.toList_eq, Bool.eq_iff_iff, beq_iff_eq, decide_eq_true_eq]
  constructor
  · intro h
    obtain ⟨⟨l⟩⟩ := a
    obtain ⟨⟨m⟩⟩ := b
    simpa using h
  · intro h; rw [h]

theorem take_step {xs ys : List Col} {k : Nat} {c : Col} (h1 : xs[k]? = some c) (h2 : ys[k]? = some c) (h : xs.take k = ys.take k) : xs.take (k + 1) = ys.take (k + 1) := by
  rw [List.take_add_one, List.take_add_one, h, h1, h2]

set_option maxHeartbeats 1000000 in
theorem eq_loop (xs ys : List Col) (g1 c1 g2 c2 : Nat) (w : World) (hl : ys.length = xs.length) (hn : xs.length ≤ 2) (h1 : ColsAt w g1 xs) (h2 : ColsAt w g2 ys) :
    Calls Try.prog 8 #[.slice (some ⟨g1, 0, none⟩) xs.length c1, .slice (some ⟨g2, 0, none⟩) xs.length c2] w fun e w' => e = .returned (.bool (decide (xs = ys))) ∧ ∃ n, w' = w.drewN n := by
  go_enter Try.func8, Try.ntmps8
  go_wp2_with fail
  go_loopw [5] (fun i wr => ∃ k n : Nat, k ≤ xs.length ∧ i = .int .i64 k ∧ wr = w.drewN n ∧ Hid (xs.take k = ys.take k)) (fun i _ => xs.length - (intOf i).toNat)
  case atStart => exact ⟨0, 0, Nat.zero_le _, rfl, rfl, rfl⟩
  case round =>
    obtain ⟨k, n, hk, rfl, rfl, hs⟩ := hrel
    by_cases hlt : k < xs.length
    · have hlt' : (k : Int) < xs.length := by omega
      obtain ⟨c, hc⟩ : ∃ c, xs[k]? = some c := ⟨_, List.getElem?_eq_getElem hlt⟩
      obtain ⟨d, hd⟩ : ∃ c, ys[k]? = some c := ⟨_, List.getElem?_eq_getElem (by omega)⟩
      obtain ⟨a1, a2⟩ := h1 k c hc
      obtain ⟨b1, b2⟩ := h2 k d hd
      obtain ⟨p, x⟩ := c
      obtain ⟨q, y⟩ := d
      simp only at a1 a2 b1 b2
      by_cases e1 : p = q
      · subst e1
        by_cases e2 : x = y
        · subst e2
          have HS : Hid (xs.take (k + 1) = ys.take (k + 1)) := take_step hc hd hs.out
          clear hc hd hs h1 h2
          go_wp2_with fail
          go_quiet (fail)
          go_wp2_with fail
          go_roundw
          case rel => exact ⟨k + 1, _, by omega, by go_num, rfl, HS⟩
          case measure => simp [intOf]; omega
        · have HN : Hid (¬ xs = ys) := fun e => by rw [e, hd] at hc; injection hc with hc; injection hc with _ hc; exact e2 hc.symm
          have f2 : (x.toList == y.toList) = false := by rw [beq_bytes]; simpa using e2
          clear hc hd hs h1 h2 e2
          go_wp2_with fail
          go_quiet (fail)
          go_wp2_with fail
          go_ret
          exact ⟨by rw [decide_eq_false HN.out]; rfl, _, World.drewN_drewN ..⟩
      · have HN : Hid (¬ xs = ys) := fun e => by rw [e, hd] at hc; injection hc with hc; injection hc with hc _; exact e1 hc.symm
        have f2 : (p.toList == q.toList) = false := by rw [beq_bytes]; simpa using e1
        clear hc hd hs h1 h2 e1
        go_wp2_with fail
        go_quiet (fail)
        go_wp2_with fail
        go_ret
        exact ⟨by rw [decide_eq_false HN.out]; rfl, _, World.drewN_drewN ..⟩
    · have hlt' : ¬ (k : Int) < xs.length := by omega
      have HS : Hid (xs = ys) := by
        have := hs.out
        rw [List.take_of_length_le (by omega), List.take_of_length_le (by omega)] at this
        exact this
      go_wp2_with fail
      go_ret
      exact ⟨by rw [decide_eq_true HS.out]; rfl, n, rfl⟩

set_option maxHeartbeats 1000000 in
theorem eq_ne (ad1 ad2 : Option Addr) (n m c1 c2 : Nat) (w : World) (h : n ≠ m) :
    Calls Try.prog 8 #[.slice ad1 n c1, .slice ad2 m c2] w fun e w' => e = .returned (.bool false) ∧ ∃ n, w' = w.drewN n := by
  have h' : ((n : Int) != (m : Int)) = true := by rw [bne_iff_ne]; omega
  go_enter Try.func8, Try.ntmps8
  go_wp2_with fail
  go_ret
  exact ⟨rfl, 0, rfl⟩
set_option maxHeartbeats 1000000 in
theorem eq_nil (ad1 ad2 : Option Addr) (c1 c2 : Nat) (w : World) :
    Calls Try.prog 8 #[.slice ad1 0 c1, .slice ad2 0 c2] w fun e w' => e = .returned (.bool true) ∧ ∃ n, w' = w.drewN n := by
  go_enter Try.func8, Try.ntmps8
  go_wp2_with fail
  refine wp_loop_rounds 1 ?_
  rw [rounds_succ]
  go_wp2_with fail
  go_ret
  exact ⟨rfl, 0, rfl⟩

/-- v is the slice of the columns xs: nil where there is none -/
def IsCols (w : World) (v : Value) (xs : List Col) : Prop :=
  (xs = [] ∧ v = .slice none 0 0) ∨ ∃ g cap, v = .slice (some ⟨g, 0, none⟩) xs.length cap ∧ g < w.heap.size ∧ ColsAt w g xs

theorem IsCols.later {w w' : World} {v : Value} {xs : List Col} (h : IsCols w v xs) (hb : Below w.heap.size w w') : IsCols w' v xs := by
  rcases h with h | ⟨g, cap, hv, hg, hc⟩
  · exact .inl h
  · refine .inr ⟨g, cap, hv, Nat.lt_of_lt_of_le hg hb.size, fun j c hj => ?_⟩
    rw [hb.cell (show g < _ from hg), hb.cell (show g < _ from hg)]
    exact hc j c hj

theorem eq_any (xs ys : List Col) (u v : Value) (w : World) (hn : xs.length ≤ 2) (h1 : IsCols w u xs) (h2 : IsCols w v ys) :
    Calls Try.prog 8 #[u, v] w fun e w' => e = .returned (.bool (decide (xs = ys))) ∧ ∃ n, w' = w.drewN n := by
  rcases h1 with ⟨rfl, rfl⟩ | ⟨g, cap, rfl, hg, hc⟩
  · rcases h2 with ⟨rfl, rfl⟩ | ⟨g2, cap2, rfl, hg2, hc2⟩
    · exact eq_nil _ _ _ _ w
    · by_cases hl : ys.length = 0
      · have : ys = [] := List.eq_nil_of_length_eq_zero hl
        subst this
        exact eq_nil _ _ _ _ w
      · rw [decide_eq_false (show ¬ [] = ys from fun e => hl (by rw [← e]; rfl))]
        exact eq_ne _ _ _ _ _ _ w (by omega)
  · rcases h2 with ⟨rfl, rfl⟩ | ⟨g2, cap2, rfl, hg2, hc2⟩
    · by_cases hl : xs.length = 0
      · have : xs = [] := List.eq_nil_of_length_eq_zero hl
        subst this
        exact eq_nil _ _ _ _ w
      · rw [decide_eq_false (show ¬ xs = [] from fun e => hl (by rw [e]; rfl))]
        exact eq_ne _ _ _ _ _ _ w (by omega)
    · by_cases hl : ys.length = xs.length
      · have := eq_loop xs ys g cap g2 cap2 w hl hn hc hc2
        rw [hl]; exact this
      · rw [decide_eq_false (show ¬ xs = ys from fun e => hl (by rw [e]))]
        exact eq_ne _ _ _ _ _ _ w (by omega)

def colsOf (a r : ByteArray) : List Col := (if a.toList.isEmpty then [] else [(keyA, a)]) ++ (if r.toList.isEmpty then [] else [(keyR, r)])

theorem isEmpty_iff (a : ByteArray) : a.toList.isEmpty = true ↔ a = ⟨#[]⟩ := by
  rw [ByteArray.toList_eq]
  obtain ⟨⟨l⟩⟩ := a
  simp

theorem colsOf_inj (a r b s : ByteArray) : colsOf a r = colsOf b s ↔ a = b ∧ r = s := by
  constructor
  · intro h
    unfold colsOf at h
    have hk : keyA ≠ keyR := by decide
    cases ha : a.toList.isEmpty <;> cases hr : r.toList.isEmpty <;> cases hb : b.toList.isEmpty <;> cases hs : s.toList.isEmpty <;>
      simp only [ha, hr, hb, hs, Bool.false_eq_true, if_true, if_false, List.append_nil, List.nil_append, List.cons_append, List.cons.injEq, Prod.mk.injEq, and_true, true_and, reduceCtorEq, and_false] at h
    all_goals first
      | exact h
      | exact absurd h.1 hk
      | exact absurd h.1.symm hk
      | (rw [isEmpty_iff] at *; simp_all)
  · rintro ⟨rfl, rfl⟩; rfl

theorem cols_any (a r : ByteArray) (w : World) :
    Calls Try.prog 6 #[.agg #[.string a, .string r]] w fun e w' => ∃ v, e = .returned v ∧ Below w.heap.size w w' ∧ IsCols w' v (colsOf a r) := by
  cases ha : a.toList.isEmpty
  · cases hr : r.toList.isEmpty
    · refine (cols_11 a r w ha hr).mono ?_
      rintro e w' ⟨v, rfl, hb, g, cap, rfl, h0, h1, c0, c1, c2, c3⟩
      refine ⟨_, rfl, hb, .inr ⟨g, cap, by simp [colsOf, ha, hr], h1, fun j c hj => ?_⟩⟩
      simp only [colsOf, ha, hr, Bool.false_eq_true, if_false, List.cons_append, List.nil_append] at hj
      match j, hj with
      | 0, hj => simp at hj; subst hj; exact ⟨c0, c1⟩
      | 1, hj => simp at hj; subst hj; exact ⟨c2, c3⟩
      | j + 2, hj => simp at hj
    · refine (cols_10 a r w ha hr).mono ?_
      rintro e w' ⟨v, rfl, hb, g, cap, rfl, h0, h1, c0, c1⟩
      refine ⟨_, rfl, hb, .inr ⟨g, cap, by simp [colsOf, ha, hr], h1, fun j c hj => ?_⟩⟩
      simp only [colsOf, ha, hr, Bool.false_eq_true, if_false, if_true, List.cons_append, List.nil_append] at hj
      match j, hj with
      | 0, hj => simp at hj; subst hj; exact ⟨c0, c1⟩
      | j + 1, hj => simp at hj
  · cases hr : r.toList.isEmpty
    · refine (cols_01 a r w ha hr).mono ?_
      rintro e w' ⟨v, rfl, hb, g, cap, rfl, h0, h1, c0, c1⟩
      refine ⟨_, rfl, hb, .inr ⟨g, cap, by simp [colsOf, ha, hr], h1, fun j c hj => ?_⟩⟩
      simp only [colsOf, ha, hr, Bool.false_eq_true, if_false, if_true, List.nil_append] at hj
      match j, hj with
      | 0, hj => simp at hj; subst hj; exact ⟨c0, c1⟩
      | j + 1, hj => simp at hj
    · refine (cols_00 a r w ha hr).mono ?_
      rintro e w' ⟨rfl, hb⟩
      exact ⟨_, rfl, hb, .inl ⟨by simp [colsOf, ha, hr], rfl⟩⟩
end Go.Proofs.Qxb6628511a

import Derived.Test.Qxb6628551aMpint
import Derived.BigQuiet
import Derived.Deep.QuietTactic
namespace Go.Proofs.Qxb6628551a
open Go.ChangeShapes Go.WideShapes Go.ChangeAt Go.RowKit

theorem take_step {xs ys : List Int} {k : Nat} {c : Int} (h1 : xs[k]? = some c) (h2 : ys[k]? = some c) (h : xs.take k = ys.take k) : xs.take (k + 1) = ys.take (k + 1) := by
  rw [List.take_add_one, List.take_add_one, h, h1, h2]

set_option maxHeartbeats 1000000 in
theorem eqb_loop (xs ys : List Int) (g1 o1 c1 g2 o2 c2 : Nat) (w : World) (hl : ys.length = xs.length) (hn : xs.length ≤ 1073741824)
    (h1 : ∀ j z, xs[j]? = some z → w.cell? ⟨g1, o1 + j, none⟩ = some (.int .u8 z)) (h2 : ∀ j z, ys[j]? = some z → w.cell? ⟨g2, o2 + j, none⟩ = some (.int .u8 z)) :
    Calls Try.prog 8 #[.slice (some ⟨g1, o1, none⟩) xs.length c1, .slice (some ⟨g2, o2, none⟩) xs.length c2] w fun e w' => e = .returned (.bool (decide (xs = ys))) ∧ ∃ n, w' = w.drewN n := by
  go_enter Try.func8, Try.ntmps8
  go_wp2_with fail
  go_loopw [5] (fun i wr => ∃ k n : Nat, k ≤ xs.length ∧ i = .int .i64 k ∧ wr = w.drewN n ∧ Hid (xs.take k = ys.take k)) (fun i _ => xs.length - (intOf i).toNat)
  case atStart => exact ⟨0, 0, Nat.zero_le _, rfl, rfl, rfl⟩
  case round =>
    obtain ⟨k, n, hk, rfl, rfl, hs⟩ := hrel
    by_cases hlt : k < xs.length
    · have hlt' : (k : Int) < xs.length := by omega
      obtain ⟨c, hc⟩ : ∃ c, xs[k]? = some c := ⟨_, List.getElem?_eq_getElem hlt⟩
      obtain ⟨d, hd⟩ : ∃ c, ys[k]? = some c := ⟨_, List.getElem?_eq_getElem (by omega)⟩
      have a1 := h1 k c hc
      have b1 := h2 k d hd
      by_cases e1 : c = d
      · subst e1
        have HS : Hid (xs.take (k + 1) = ys.take (k + 1)) := take_step hc hd hs.out
        clear hc hd hs h1 h2
        go_wp2_with fail
        go_quiet (fail)
        go_wp2_with fail
        go_roundw
        case rel => exact ⟨k + 1, _, by omega, by go_num, rfl, HS⟩
        case measure => simp [intOf]; omega
      · have HN : Hid (¬ xs = ys) := fun e => by rw [e, hd] at hc; injection hc with hc; exact e1 hc.symm
        have f2 : (c != d) = true := by simpa using e1
        clear hc hd hs h1 h2 e1
        go_wp2_with fail
        go_quiet (fail)
        go_wp2_with fail
        go_ret
        exact ⟨by rw [decide_eq_false HN.out]; rfl, _, World.drewN_drewN ..⟩
    · have hlt' : ¬ (k : Int) < xs.length := by omega
      have HS : Hid (xs = ys) := by
        have := hs.out
        rw [List.take_of_length_le (by omega), List.take_of_length_le (by omega)] at this
        exact this
      go_wp2_with fail
      go_ret
      exact ⟨by rw [decide_eq_true HS.out]; rfl, n, rfl⟩

set_option maxHeartbeats 1000000 in
theorem eqb_ne (ad1 ad2 : Option Addr) (n m c1 c2 : Nat) (w : World) (h : n ≠ m) :
    Calls Try.prog 8 #[.slice ad1 n c1, .slice ad2 m c2] w fun e w' => e = .returned (.bool false) ∧ ∃ n, w' = w.drewN n := by
  have h' : ((n : Int) != (m : Int)) = true := by rw [bne_iff_ne]; omega
  go_enter Try.func8, Try.ntmps8
  go_wp2_with fail
  go_ret
  exact ⟨rfl, 0, rfl⟩
set_option maxHeartbeats 1000000 in
theorem eqb_nil (ad1 ad2 : Option Addr) (c1 c2 : Nat) (w : World) :
    Calls Try.prog 8 #[.slice ad1 0 c1, .slice ad2 0 c2] w fun e w' => e = .returned (.bool true) ∧ ∃ n, w' = w.drewN n := by
  go_enter Try.func8, Try.ntmps8
  go_wp2_with fail
  refine wp_loop_rounds 1 ?_
  rw [rounds_succ]
  go_wp2_with fail
  go_ret
  exact ⟨rfl, 0, rfl⟩

theorem eqb_any (xs ys : List Int) (ao1 ao2 : Option Addr) (c1 c2 B1 B2 : Nat) (w : World) (hn : xs.length ≤ 1073741824) (h1 : Rd w B1 ao1 xs) (h2 : Rd w B2 ao2 ys) :
    Calls Try.prog 8 #[.slice ao1 xs.length c1, .slice ao2 ys.length c2] w fun e w' => e = .returned (.bool (decide (xs = ys))) ∧ ∃ n, w' = w.drewN n := by
  by_cases hl : ys.length = xs.length
  · rcases h1 with rfl | ⟨g, off, rfl, hg, hc⟩
    · have : ys = [] := List.eq_nil_of_length_eq_zero (by simpa using hl)
      subst this
      exact eqb_nil _ _ _ _ w
    · rcases h2 with rfl | ⟨g2, off2, rfl, hg2, hc2⟩
      · have : xs = [] := List.eq_nil_of_length_eq_zero (by simpa using hl.symm)
        subst this
        exact eqb_nil _ _ _ _ w
      · rw [hl]
        exact eqb_loop xs ys g off c1 g2 off2 c2 w hl hn hc hc2
  · rw [decide_eq_false (show ¬ xs = ys from fun e => hl (by rw [e]))]
    exact eqb_ne _ _ _ _ _ _ w (by omega)

/-- the k-th byte from the low end; beyond the high end: 0 -/
def low (xs : List Int) (k : Nat) : Int := if k ≤ xs.length then xs.getD (xs.length - k) 0 else 0

theorem low_in {xs : List Int} {k : Nat} (h1 : 1 ≤ k) (h : k ≤ xs.length) : xs[xs.length - k]? = some (low xs k) := by
  unfold low
  rw [if_pos h, List.getD, List.getElem?_eq_getElem (by omega)]
  rfl
theorem low_out {xs : List Int} {k : Nat} (h : ¬ k ≤ xs.length) : low xs k = 0 := by
  unfold low
  rw [if_neg h]

theorem Rd.at {w : World} {B : Nat} {ao : Option Addr} {xs : List Int} (h : Rd w B ao xs) (hp : 0 < xs.length) : ∃ g off, ao = some ⟨g, off, none⟩ ∧ ∀ j z, xs[j]? = some z → w.cell? ⟨g, off + j, none⟩ = some (.int .u8 z) := by
  rcases h with rfl | ⟨g, off, ha, _, hc⟩
  · simp at hp
  · exact ⟨g, off, ha, hc⟩

set_option maxHeartbeats 1000000 in
theorem same_any (xs ys : List Int) (ao1 ao2 : Option Addr) (c1 c2 B1 B2 : Nat) (w : World) (hn : xs.length ≤ 1073741824) (hm : ys.length ≤ 1073741824) (h1 : Rd w B1 ao1 xs) (h2 : Rd w B2 ao2 ys)
    (h : ∀ k, 1 ≤ k → low xs k = low ys k) :
    Calls Try.prog 12 #[.slice ao1 xs.length c1, .slice ao2 ys.length c2] w fun e w' => e = .returned (.bool true) ∧ w = w' := by
  have Hl : Hid (∀ k, 1 ≤ k → low xs k = low ys k) := h
  have H1 : Hid (Rd w B1 ao1 xs) := h1
  have H2 : Hid (Rd w B2 ao2 ys) := h2
  clear h h1 h2
  by_cases hlt : xs.length < ys.length
  · have hlt' : (xs.length : Int) < ys.length := by omega
    go_enter Try.func12, Try.ntmps12
    go_wp2_with fail
    go_loop [6] (fun i => ∃ k : Nat, 1 ≤ k ∧ k ≤ ys.length + 1 ∧ i = .int .i64 k) (fun i => ys.length + 1 - (intOf i).toNat)
    case atStart => exact ⟨1, by omega, by omega, rfl⟩
    case round =>
      obtain ⟨k, hk1, hk2, rfl⟩ := hrel
      by_cases hky : k ≤ ys.length
      · have hky' : (k : Int) ≤ ys.length := by omega
        obtain ⟨g2, o2, rfl, hc2⟩ := H2.out.at (by omega)
        have d2 := hc2 _ _ (low_in hk1 hky)
        by_cases hkx : k ≤ xs.length
        · have hkx' : (k : Int) ≤ xs.length := by omega
          obtain ⟨g1, o1, rfl, hc1⟩ := H1.out.at (by omega)
          have d1 := hc1 _ _ (low_in hk1 hkx)
          rw [← Hl.out k hk1] at d2
          clear hc1 hc2
          generalize low xs k = z at d1 d2
          go_wp2_with fail
          go_round
          case rel => exact ⟨k + 1, by omega, by omega, by go_num⟩
          case measure => simp [intOf]; omega
        · have hkx' : ¬ (k : Int) ≤ xs.length := by omega
          rw [← Hl.out k hk1, low_out hkx] at d2
          clear hc2
          go_wp2_with fail
          go_round
          case rel => exact ⟨k + 1, by omega, by omega, by go_num⟩
          case measure => simp [intOf]; omega
      · have hky' : ¬ (k : Int) ≤ ys.length := by omega
        go_wp2_with fail
        go_ret
        exact ⟨rfl, rfl⟩
  · have hlt' : ¬ (xs.length : Int) < ys.length := by omega
    go_enter Try.func12, Try.ntmps12
    go_wp2_with fail
    go_loop [6] (fun i => ∃ k : Nat, 1 ≤ k ∧ k ≤ xs.length + 1 ∧ i = .int .i64 k) (fun i => xs.length + 1 - (intOf i).toNat)
    case atStart => exact ⟨1, by omega, by omega, rfl⟩
    case round =>
      obtain ⟨k, hk1, hk2, rfl⟩ := hrel
      by_cases hkx : k ≤ xs.length
      · have hkx' : (k : Int) ≤ xs.length := by omega
        obtain ⟨g1, o1, rfl, hc1⟩ := H1.out.at (by omega)
        have d1 := hc1 _ _ (low_in hk1 hkx)
        by_cases hky : k ≤ ys.length
        · have hky' : (k : Int) ≤ ys.length := by omega
          obtain ⟨g2, o2, rfl, hc2⟩ := H2.out.at (by omega)
          have d2 := hc2 _ _ (low_in hk1 hky)
          rw [← Hl.out k hk1] at d2
          clear hc1 hc2
          generalize low xs k = z at d1 d2
          go_wp2_with fail
          go_round
          case rel => exact ⟨k + 1, by omega, by omega, by go_num⟩
          case measure => simp [intOf]; omega
        · have hky' : ¬ (k : Int) ≤ ys.length := by omega
          rw [Hl.out k hk1, low_out hky] at d1
          clear hc1
          go_wp2_with fail
          go_round
          case rel => exact ⟨k + 1, by omega, by omega, by go_num⟩
          case measure => simp [intOf]; omega
      · have hkx' : ¬ (k : Int) ≤ xs.length := by omega
        go_wp2_with fail
        go_ret
        exact ⟨rfl, rfl⟩
end Go.Proofs.Qxb6628551a

import Derived.Test.Qxb6628598aRows
import Derived.WalkKit
import Derived.WalkLawsBesides
import Derived.WalkSpells
import Derived.ProofKit
import Derived.LoopN
import Derived.BigQuiet
import Derived.Deep.QuietTactic
namespace Go.Proofs.Qxb6628598a
open Go.ChangeShapes Go.WideShapes Go.ChangeAt Go.RowKit

/-- a level: items, paragraph, bare, empty, fence, html -/
abbrev Lvl := List Int × Bool × Int × Bool × ByteArray × Int

/-- a slice of ints at 'ao' reads xs; its block lies below B -/
def IntsAt (w : World) (B : Nat) (ao : Option Addr) (xs : List Int) : Prop :=
  xs = [] ∨ ∃ g off, ao = some ⟨g, off, none⟩ ∧ g < B ∧ ∀ j z, xs[j]? = some z → w.cell? ⟨g, off + j, none⟩ = some (.int .i64 z)
def SlcAt (w : World) (B : Nat) (v : Value) (xs : List Int) : Prop :=
  ∃ ao cap, v = .slice ao xs.length cap ∧ (ao = none → cap = 0) ∧ IntsAt w B ao xs
def LvlAt (w : World) (B g off : Nat) (l : Lvl) : Prop :=
  ∃ sv, SlcAt w B sv l.1 ∧ w.cell? ⟨g, off, none⟩ = some sv ∧ w.cell? ⟨g, off + 1, none⟩ = some (.bool l.2.1) ∧ w.cell? ⟨g, off + 2, none⟩ = some (.int .i64 l.2.2.1) ∧
    w.cell? ⟨g, off + 3, none⟩ = some (.bool l.2.2.2.1) ∧ w.cell? ⟨g, off + 4, none⟩ = some (.string l.2.2.2.2.1) ∧ w.cell? ⟨g, off + 5, none⟩ = some (.int .i64 l.2.2.2.2.2)
def LvlsAt (w : World) (B : Nat) (ao : Option Addr) (ls : List Lvl) : Prop :=
  ls = [] ∨ ∃ g off, ao = some ⟨g, off, none⟩ ∧ g < B ∧ ∀ j l, ls[j]? = some l → LvlAt w B g (off + j * 6) l
def Chain (w : World) (B : Nat) : Value → List Lvl → Prop
  | p, [] => p = .pointer none
  | p, l :: ls => ∃ g q sv, p = .pointer (some ⟨g, 0, none⟩) ∧ g < B ∧ SlcAt w B sv l.1 ∧ w.cell? ⟨g, 0, none⟩ = some sv ∧ w.cell? ⟨g, 1, none⟩ = some (.bool l.2.1) ∧ w.cell? ⟨g, 2, none⟩ = some q ∧
      w.cell? ⟨g, 3, none⟩ = some (.int .i64 l.2.2.1) ∧ w.cell? ⟨g, 4, none⟩ = some (.bool l.2.2.2.1) ∧ w.cell? ⟨g, 5, none⟩ = some (.string l.2.2.2.2.1) ∧ w.cell? ⟨g, 6, none⟩ = some (.int .i64 l.2.2.2.2.2) ∧ Chain w B q ls

theorem IntsAt.later {w w' : World} {B C D : Nat} {ao : Option Addr} {xs : List Int} (h : IntsAt w B ao xs) (hb : Below C w w') (hC : B ≤ C) (hD : B ≤ D) : IntsAt w' D ao xs := by
  rcases h with h | ⟨g, off, ha, hg, hc⟩
  · exact .inl h
  · exact .inr ⟨g, off, ha, by omega, fun j z hj => by rw [hb.cell (show g < _ by omega)]; exact hc j z hj⟩
theorem SlcAt.later {w w' : World} {B C D : Nat} {v : Value} {xs : List Int} (h : SlcAt w B v xs) (hb : Below C w w') (hC : B ≤ C) (hD : B ≤ D) : SlcAt w' D v xs := by
  obtain ⟨ao, cap, h1, h2, h3⟩ := h
  exact ⟨ao, cap, h1, h2, h3.later hb hC hD⟩
theorem LvlAt.later {w w' : World} {B C D g off : Nat} {l : Lvl} (h : LvlAt w B g off l) (hg : g < B) (hb : Below C w w') (hC : B ≤ C) (hD : B ≤ D) : LvlAt w' D g off l := by
  obtain ⟨sv, h0, h1, h2, h3, h4, h5, h6⟩ := h
  have e : ∀ o, w'.cell? ⟨g, o, none⟩ = w.cell? ⟨g, o, none⟩ := fun o => hb.cell (show g < _ by omega)
  exact ⟨sv, h0.later hb hC hD, by rw [e]; exact h1, by rw [e]; exact h2, by rw [e]; exact h3, by rw [e]; exact h4, by rw [e]; exact h5, by rw [e]; exact h6⟩
theorem LvlsAt.later {w w' : World} {B C D : Nat} {ao : Option Addr} {ls : List Lvl} (h : LvlsAt w B ao ls) (hb : Below C w w') (hC : B ≤ C) (hD : B ≤ D) : LvlsAt w' D ao ls := by
  rcases h with h | ⟨g, off, ha, hg, hc⟩
  · exact .inl h
  · exact .inr ⟨g, off, ha, by omega, fun j l hj => (hc j l hj).later hg hb hC hD⟩
theorem Chain.later {w w' : World} {B C D : Nat} (hb : Below C w w') (hC : B ≤ C) (hD : B ≤ D) : ∀ {p : Value} {ls : List Lvl}, Chain w B p ls → Chain w' D p ls
  | _, [], h => h
  | _, _ :: _, h => by
    obtain ⟨g, q, sv, hp, hg, h0, h1, h2, h3, h4, h5, h6, h7, h8⟩ := h
    have e : ∀ o, w'.cell? ⟨g, o, none⟩ = w.cell? ⟨g, o, none⟩ := fun o => hb.cell (show g < _ by omega)
    exact ⟨g, q, sv, hp, by omega, h0.later hb hC hD, by rw [e]; exact h1, by rw [e]; exact h2, by rw [e]; exact h3, by rw [e]; exact h4, by rw [e]; exact h5, by rw [e]; exact h6, by rw [e]; exact h7, Chain.later hb hC hD h8⟩

theorem IntsAt.at {w : World} {B : Nat} {ao : Option Addr} {xs : List Int} (h : IntsAt w B ao xs) (hp : 0 < xs.length) : ∃ g off, ao = some ⟨g, off, none⟩ ∧ ∀ j z, xs[j]? = some z → w.cell? ⟨g, off + j, none⟩ = some (.int .i64 z) := by
  rcases h with rfl | ⟨g, off, ha, _, hc⟩
  · simp at hp
  · exact ⟨g, off, ha, hc⟩
theorem IntsAt.nil {w : World} {B : Nat} {ao : Option Addr} {xs : List Int} (h : IntsAt w B ao xs) (ha : ao = none) : xs = [] := by
  rcases h with h | ⟨g, off, h1, _⟩
  · exact h
  · rw [h1] at ha; cases ha

/-! ### fnCloneInts -/
theorem Try.info3 : (Try.prog.info? 3).map (fun i => (i.zero, i.size, i.bytes)) = some (some (.int .i64 0), 1, 8) := by kernel_rfl

def cellsOf (xs : List Int) : List Value := xs.map (Value.int .i64)
theorem cellsOf_length (xs : List Int) : (cellsOf xs).length = xs.length := by simp [cellsOf]
theorem cellsOf_one (xs : List Int) : ∀ u ∈ cellsOf xs, u.oneCell' = true := ints_oneCell .i64 xs
theorem cellsOf_append (xs ys : List Int) : cellsOf (xs ++ ys) = cellsOf xs ++ cellsOf ys := by simp [cellsOf]

/-- the row of ints xs, owned from 'base' on -/
def Owns (w : World) (base : Nat) (v : Value) (xs : List Int) : Prop := w.ownsRow base 3 1 v xs.length (cellsOf xs)

theorem Owns.slc {w : World} {base : Nat} {v : Value} {xs : List Int} (h : Owns w base v xs) : SlcAt w w.heap.size v xs := by
  rcases h.2 with ⟨rfl, h0⟩ | ⟨g, cap, cur, rfl, hb, hg, hnc, hcm, _⟩
  · have : xs = [] := List.eq_nil_of_length_eq_zero h0
    subst this
    exact ⟨none, 0, rfl, fun _ => rfl, .inl rfl⟩
  · refine ⟨_, cap, rfl, (fun e => by cases e), .inr ⟨g, 0, rfl, (Array.getElem?_eq_some_iff.1 hg).1, fun j z hj => ?_⟩⟩
    have hj' : j < xs.length := (List.getElem?_eq_some_iff.1 hj).1
    have := World.ownsRow.cellAt h j (by omega)
    rw [Nat.zero_add, this]
    simp [cellsOf, hj]

theorem set_mid {α : Type} (A B : List α) (z y : α) (k : Nat) (hk : A.length = k) : (A ++ z :: B).set k y = A ++ y :: B := by
  subst hk; simp
def filled (xs : List Int) (k : Nat) : List Value := (cellsOf xs).take k ++ List.replicate (xs.length - k) (Value.int .i64 0)
theorem filled_zero (xs : List Int) : filled xs 0 = List.replicate xs.length (Value.int .i64 0) := by simp [filled]
theorem filled_all (xs : List Int) : filled xs xs.length = cellsOf xs := by
  unfold filled
  rw [List.take_of_length_le (by rw [cellsOf_length]; omega), Nat.sub_self]; simp
theorem filled_set (xs : List Int) (k : Nat) (z : Int) (hz : xs[k]? = some z) : (filled xs k).set k (.int .i64 z) = filled xs (k + 1) := by
  have hk : k < xs.length := (List.getElem?_eq_some_iff.1 hz).1
  have e : (cellsOf xs)[k]? = some (.int .i64 z) := by simp [cellsOf, hz]
  unfold filled
  rw [show xs.length - k = (xs.length - (k + 1)) + 1 from by omega, List.replicate_succ, set_mid _ _ _ _ _ (by rw [List.length_take, cellsOf_length]; omega), List.take_add_one, e]
  simp
theorem filled_at (xs : List Int) (k : Nat) (hk : k < xs.length) : (filled xs k)[k]? = some (.int .i64 0) := by
  unfold filled
  rw [List.getElem?_append_right (by rw [List.length_take, cellsOf_length]; omega)]
  rw [List.length_take, cellsOf_length, show k - min k xs.length = 0 from by omega, show xs.length - k = (xs.length - (k + 1)) + 1 from by omega]
  rfl

set_option maxHeartbeats 1000000 in
theorem ints_nil (w : World) :
    Calls Try.prog 12 #[.slice none 0 0] w fun e w' => ∃ v, e = .returned v ∧ Owns w' w.heap.size v [] ∧ Below w.heap.size w w' := by
  have he := fun wx : World => Lib.run_eql_slice_nil (P := Try.prog) wx 31 3 none 0 0 0 0 Try.underlying31
  go_enter Try.func12, Try.ntmps12
  go_wp2_with fail
  go_ret
  exact ⟨_, rfl, World.ownsRow_nil _ _ _ _, Below.refl _ _⟩

set_option maxHeartbeats 1000000 in
theorem ints_some (xs : List Int) (ad : Addr) (c : Nat) (w : World) (hr : IntsAt w w.heap.size (some ad) xs) (hn : xs.length ≤ 1048576) :
    Calls Try.prog 12 #[.slice (some ad) xs.length c] w fun e w' => ∃ v, e = .returned v ∧ Owns w' w.heap.size v xs ∧ Below w.heap.size w w' := by
  obtain ⟨i0, hi, hz0, hz1, hz2⟩ := info_parts Try.info3
  have he := fun wx : World => Lib.run_eql_slice_nil (P := Try.prog) wx 31 3 (some ad) xs.length c 0 0 Try.underlying31
  have H1 : Hid (IntsAt w w.heap.size (some ad) xs) := hr
  clear hr
  go_enter Try.func12, Try.ntmps12
  go_wp2_with (at_make; refine wpList_make_full _ rfl _ _ 31 rfl w.heap.size 3 i0 (.int .i64 0) 1 Try.underlying31 hi hz0 hz1 _ _ _ _ xs.length rfl rfl (by first | rfl | omega) (by first | rfl | omega) (by rw [hz2]; omega) (by unfold maxLen; omega) (Nat.le_refl _) ?_; intro w1 hown hgrow)
  have HO : Hid (w1.ownsRow w.heap.size 3 1 (.slice (some ⟨w.heap.size, 0, none⟩) xs.length xs.length) xs.length (filled xs 0)) := by
    rw [filled_zero]
    have := toList_madeCells_one (.int .i64 0) (xs.length * 1)
    rw [Nat.mul_one] at this
    rw [← this]
    rw [Nat.mul_one] at hown
    exact hown
  have HB : Hid (Below w.heap.size w w1) := (Below.refl _ _).grown hgrow (Nat.le_refl _) (fun k hk => by cases hk)
  clear hown hgrow he
  go_loopw [4] (fun i wr => ∃ k : Nat, k ≤ xs.length ∧ i = .int .i64 k ∧ Hid (wr.ownsRow w.heap.size 3 1 (.slice (some ⟨w.heap.size, 0, none⟩) xs.length xs.length) xs.length (filled xs k)) ∧ Hid (Below w.heap.size w wr)) (fun i _ => xs.length - (intOf i).toNat)
  case atStart => exact ⟨0, Nat.zero_le _, rfl, HO, HB⟩
  case round =>
    obtain ⟨k, hk, rfl, ho, hb⟩ := hrel
    clear HO HB
    by_cases hlt : k < xs.length
    · have hlt' : (k : Int) < xs.length := by omega
      obtain ⟨z, hz⟩ : ∃ z, xs[k]? = some z := ⟨_, List.getElem?_eq_getElem hlt⟩
      obtain ⟨g, off, hg, hc⟩ := (H1.out.later hb.out (Nat.le_refl _) (Nat.le_refl _)).at (by omega)
      obtain rfl := Option.some.inj hg
      have d1 := hc k z hz
      have d2 := (ho.out.cellAt k (by omega)).trans (filled_at xs k hlt)
      have d3 := ho.out.frozenAt k
      have HO2 : Hid ((wr.setCell ⟨w.heap.size, k, none⟩ (.int .i64 z)).ownsRow w.heap.size 3 1 (.slice (some ⟨w.heap.size, 0, none⟩) xs.length xs.length) xs.length (filled xs (k + 1))) := by
        have := (ho.out.stored k (.int .i64 z)).1
        rw [filled_set xs k z hz] at this
        exact this
      have HB2 : Hid (Below w.heap.size w (wr.setCell ⟨w.heap.size, k, none⟩ (.int .i64 z))) := hb.out.setCell (Nat.le_refl _) _
      clear hc hz ho hb H1 hg
      go_wp2_with fail
      go_roundw
      case rel => exact ⟨k + 1, by omega, by go_num, HO2, HB2⟩
      case measure => simp [intOf]; omega
    · have hlt' : ¬ (k : Int) < xs.length := by omega
      obtain rfl : k = xs.length := by omega
      go_wp2_with fail
      go_ret
      refine ⟨_, rfl, ?_, hb.out⟩
      have := ho.out
      rw [filled_all] at this
      exact this

theorem ints_any (xs : List Int) (v : Value) (B : Nat) (w : World) (hr : SlcAt w B v xs) (hB : B ≤ w.heap.size) (hn : xs.length ≤ 1048576) :
    Calls Try.prog 12 #[v] w fun e w' => ∃ v, e = .returned v ∧ Owns w' w.heap.size v xs ∧ Below w.heap.size w w' := by
  obtain ⟨ao, cap, rfl, hc, hi⟩ := hr
  cases ao with
  | none =>
    obtain rfl := hi.nil rfl
    obtain rfl := hc rfl
    exact ints_nil w
  | some ad => exact ints_some xs ad cap w (hi.later (Below.refl _ _) (Nat.le_refl _) hB) hn

/-! ### slices.Equal -/
theorem take_step {xs ys : List Int} {k : Nat} {c : Int} (h1 : xs[k]? = some c) (h2 : ys[k]? = some c) (h : xs.take k = ys.take k) : xs.take (k + 1) = ys.take (k + 1) := by
  rw [List.take_add_one, List.take_add_one, h, h1, h2]

set_option maxHeartbeats 1000000 in
theorem equal_loop (xs ys : List Int) (g1 o1 c1 g2 o2 c2 : Nat) (w : World) (hl : ys.length = xs.length) (hn : xs.length ≤ 1073741824)
    (h1 : ∀ j z, xs[j]? = some z → w.cell? ⟨g1, o1 + j, none⟩ = some (.int .i64 z)) (h2 : ∀ j z, ys[j]? = some z → w.cell? ⟨g2, o2 + j, none⟩ = some (.int .i64 z)) :
    Calls Try.prog 14 #[.slice (some ⟨g1, o1, none⟩) xs.length c1, .slice (some ⟨g2, o2, none⟩) xs.length c2] w fun e w' => e = .returned (.bool (decide (xs = ys))) ∧ ∃ n, w' = w.drewN n := by
  go_enter Try.func14, Try.ntmps14
  go_wp2_with fail
  go_loopw [13] (fun i wr => ∃ k n : Nat, k ≤ xs.length ∧ i = .int .i64 k ∧ wr = w.drewN n ∧ Hid (xs.take k = ys.take k)) (fun i _ => xs.length - (intOf i).toNat)
  case atStart => exact ⟨0, 0, Nat.zero_le _, rfl, rfl, rfl⟩
  case round =>
    obtain ⟨k, n, hk, rfl, rfl, hs⟩ := hrel
    by_cases hlt : k < xs.length
    · have hlt' : (k : Int) < xs.length := by omega
      obtain ⟨c, hc⟩ : ∃ c, xs[k]? = some c := ⟨_, List.getElem?_eq_getElem hlt⟩
      obtain ⟨d, hd⟩ : ∃ c, ys[k]? = some c := ⟨_, List.getElem?_eq_getElem (by omega)⟩
      have a1 := h1 k c hc
      have b1 := h2 k d hd
      by_cases e1 : c = d
      · subst e1
        have HS : Hid (xs.take (k + 1) = ys.take (k + 1)) := take_step hc hd hs.out
        clear hc hd hs h1 h2
        go_wp2_with fail
        go_quiet (fail)
        go_wp2_with fail
        go_roundw
        case rel => exact ⟨k + 1, _, by omega, by go_num, rfl, HS⟩
        case measure => simp [intOf]; omega
      · have HN : Hid (¬ xs = ys) := fun e => by rw [e, hd] at hc; injection hc with hc; exact e1 hc.symm
        have f2 : (c != d) = true := by simpa using e1
        clear hc hd hs h1 h2 e1
        go_wp2_with fail
        go_quiet (fail)
        go_wp2_with fail
        go_ret
        exact ⟨by rw [decide_eq_false HN.out]; rfl, _, World.drewN_drewN ..⟩
    · have hlt' : ¬ (k : Int) < xs.length := by omega
      have HS : Hid (xs = ys) := by
        have := hs.out
        rw [List.take_of_length_le (by omega), List.take_of_length_le (by omega)] at this
        exact this
      go_wp2_with fail
      go_ret
      exact ⟨by rw [decide_eq_true HS.out]; rfl, n, rfl⟩
set_option maxHeartbeats 1000000 in
theorem equal_ne (ad1 ad2 : Option Addr) (n m c1 c2 : Nat) (w : World) (h : n ≠ m) :
    Calls Try.prog 14 #[.slice ad1 n c1, .slice ad2 m c2] w fun e w' => e = .returned (.bool false) ∧ ∃ n, w' = w.drewN n := by
  have h' : ((n : Int) != (m : Int)) = true := by rw [bne_iff_ne]; omega
  go_enter Try.func14, Try.ntmps14
  go_wp2_with fail
  go_ret
  exact ⟨rfl, 0, rfl⟩
set_option maxHeartbeats 1000000 in
theorem equal_nil (ad1 ad2 : Option Addr) (c1 c2 : Nat) (w : World) :
    Calls Try.prog 14 #[.slice ad1 0 c1, .slice ad2 0 c2] w fun e w' => e = .returned (.bool true) ∧ ∃ n, w' = w.drewN n := by
  go_enter Try.func14, Try.ntmps14
  go_wp2_with fail
  refine wp_loop_rounds 1 ?_
  rw [rounds_succ]
  go_wp2_with fail
  go_ret
  exact ⟨rfl, 0, rfl⟩
theorem equal_any (xs ys : List Int) (u v : Value) (B1 B2 : Nat) (w : World) (hn : xs.length ≤ 1073741824) (h1 : SlcAt w B1 u xs) (h2 : SlcAt w B2 v ys) :
    Calls Try.prog 14 #[u, v] w fun e w' => e = .returned (.bool (decide (xs = ys))) ∧ ∃ n, w' = w.drewN n := by
  obtain ⟨ao1, c1, rfl, _, h1⟩ := h1
  obtain ⟨ao2, c2, rfl, _, h2⟩ := h2
  by_cases hl : ys.length = xs.length
  · rcases h1 with rfl | ⟨g, off, rfl, hg, hc⟩
    · have : ys = [] := List.eq_nil_of_length_eq_zero (by simpa using hl)
      subst this
      exact equal_nil _ _ _ _ w
    · rcases h2 with rfl | ⟨g2, off2, rfl, hg2, hc2⟩
      · have : xs = [] := List.eq_nil_of_length_eq_zero (by simpa using hl.symm)
        subst this
        exact equal_nil _ _ _ _ w
      · rw [hl]
        exact equal_loop xs ys g off c1 g2 off2 c2 w hl hn hc hc2
  · rw [decide_eq_false (show ¬ xs = ys from fun e => hl (by rw [e]))]
    exact equal_ne _ _ _ _ _ _ w (by omega)

/-! ### ZZnewBlockScanner -/
set_option maxHeartbeats 1000000 in
theorem zznew_any (ao : Option Addr) (n c : Nat) (q : Option Addr) (p e : Bool) (b h : Int) (f : ByteArray) (w : World) :
    Calls Try.prog 13 #[.slice ao n c, .bool p, .pointer q, .int .i64 b, .bool e, .string f, .int .i64 h] w fun r w' => r = .returned (.pointer (some ⟨w.heap.size, 0, none⟩)) ∧ w.alloc (.cells #[.slice ao n c, .bool p, .pointer q, .int .i64 b, .bool e, .string f, .int .i64 h] 38) = w' := by
  go_enter Try.func13, Try.ntmps13
  go_wp2_with fail
  go_ret
  exact ⟨rfl, rfl⟩
end Go.Proofs.Qxb6628598a

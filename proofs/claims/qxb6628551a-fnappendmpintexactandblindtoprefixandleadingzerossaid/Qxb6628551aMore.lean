import Derived.Test.Qxb6628551aMem
import Derived.BigQuiet
import Derived.Deep.QuietTactic
namespace Go.Proofs.Qxb6628551a
open Go.ChangeShapes Go.WideShapes Go.ChangeAt Go.RowKit

theorem Owns.shape' {w : World} {base : Nat} {v : Value} {xs : List Int} (h : Owns w base v xs) :
    ∃ ad cap, v = .slice ad xs.length cap ∧ (ad = none → cap = 0) ∧ Rd w w.heap.size ad xs := by
  by_cases hp : 0 < xs.length
  · obtain ⟨g, cap, hv, _, _, hR⟩ := h.shape hp
    exact ⟨_, cap, hv, (fun e => by cases e), hR⟩
  · have e : xs = [] := List.eq_nil_of_length_eq_zero (by omega)
    subst e
    rcases h.2 with ⟨rfl, _⟩ | ⟨g, cap, cur, rfl, _⟩
    · exact ⟨none, 0, rfl, fun _ => rfl, .inl rfl⟩
    · exact ⟨_, cap, rfl, (fun e => by cases e), .inl rfl⟩

theorem app_left {xs ys : List Int} {k : Nat} {z : Int} (h : xs[k]? = some z) : (xs ++ ys)[k]? = some z := by
  rw [List.getElem?_append_left (List.getElem?_eq_some_iff.1 h).1]; exact h
theorem app_right {xs ys : List Int} {k : Nat} {z : Int} (h : ys[k]? = some z) : (xs ++ ys)[xs.length + k]? = some z := by
  rw [List.getElem?_append_right (by omega), Nat.add_sub_cancel_left]; exact h

set_option maxHeartbeats 1000000 in
theorem concat_any (xs ys : List Int) (ao1 ao2 : Option Addr) (c1 c2 : Nat) (w : World) (h1 : Rd w w.heap.size ao1 xs) (h2 : Rd w w.heap.size ao2 ys) (hn : xs.length ≤ 1048576) (hm : ys.length ≤ 1073741824) :
    Calls Try.prog 9 #[.slice ao1 xs.length c1, .slice ao2 ys.length c2] w fun e w' => ∃ v, e = .returned v ∧ Owns w' w.heap.size v (xs ++ ys) ∧ Below w.heap.size w w' := by
  obtain ⟨i0, hi, hz0, hz1, hz2⟩ := info_parts Try.info5
  have H1 : Hid (Rd w w.heap.size ao1 xs) := h1
  have H2 : Hid (Rd w w.heap.size ao2 ys) := h2
  have HLn : Hid ((xs ++ ys).length = xs.length + ys.length) := by show _ = _; simp
  clear h1 h2
  go_enter Try.func9, Try.ntmps9
  go_wp2_with (at_make; refine wpList_make_full _ rfl _ _ 22 rfl w.heap.size 5 i0 (.int .u8 0) 1 Try.underlying22 hi hz0 hz1 _ _ _ _ (xs.length + ys.length) rfl rfl (by omega) (by omega) (by rw [hz2]; omega) (by unfold maxLen; omega) (Nat.le_refl _) ?_; intro w1 hown hgrow)
  have HO : Hid (w1.ownsRow w.heap.size 5 1 (.slice (some ⟨w.heap.size, 0, none⟩) (xs.length + ys.length) (xs.length + ys.length)) (xs.length + ys.length) (filled (xs ++ ys) 0)) := by
    rw [filled_zero, HLn.out]
    have := toList_madeCells_one (.int .u8 0) ((xs.length + ys.length) * 1)
    rw [Nat.mul_one] at this
    rw [← this]
    rw [Nat.mul_one] at hown
    exact hown
  have HB : Hid (Below w.heap.size w w1) := (Below.refl _ _).grown hgrow (Nat.le_refl _) (fun k hk => by cases hk)
  clear hown hgrow
  go_loopw [6] (fun i wr => ∃ k : Nat, k ≤ xs.length ∧ i = .int .i64 k ∧ Hid (wr.ownsRow w.heap.size 5 1 (.slice (some ⟨w.heap.size, 0, none⟩) (xs.length + ys.length) (xs.length + ys.length)) (xs.length + ys.length) (filled (xs ++ ys) k)) ∧ Hid (Below w.heap.size w wr)) (fun i _ => xs.length - (intOf i).toNat)
  case atStart => exact ⟨0, Nat.zero_le _, rfl, HO, HB⟩
  case round =>
    obtain ⟨k, hk, rfl, ho, hb⟩ := hrel
    clear HO HB
    by_cases hlt : k < xs.length
    · have hlt' : (k : Int) < xs.length := by omega
      have hlt'' : (k : Int) < xs.length + ys.length := by omega
      obtain ⟨z, hz⟩ : ∃ z, xs[k]? = some z := ⟨_, List.getElem?_eq_getElem hlt⟩
      obtain ⟨g, off, rfl, hc⟩ := (H1.out.later hb.out (Nat.le_refl _)).at (by omega)
      have d1 := hc k z hz
      have d2 := (ho.out.cellAt k (by omega)).trans (filled_at (xs ++ ys) k (by rw [HLn.out]; omega))
      have d3 := ho.out.frozenAt k
      have HO2 : Hid ((wr.setCell ⟨w.heap.size, k, none⟩ (.int .u8 z)).ownsRow w.heap.size 5 1 (.slice (some ⟨w.heap.size, 0, none⟩) (xs.length + ys.length) (xs.length + ys.length)) (xs.length + ys.length) (filled (xs ++ ys) (k + 1))) := by
        have := (ho.out.stored k (.int .u8 z)).1
        rw [filled_set (xs ++ ys) k z (app_left hz)] at this
        exact this
      have HB2 : Hid (Below w.heap.size w (wr.setCell ⟨w.heap.size, k, none⟩ (.int .u8 z))) := hb.out.setCell (Nat.le_refl _) _
      clear hc hz ho hb H1 H2
      go_wp2_with fail
      go_roundw
      case rel => exact ⟨k + 1, by omega, by go_num, HO2, HB2⟩
      case measure => simp [intOf]; omega
    · have hlt' : ¬ (k : Int) < xs.length := by omega
      obtain rfl : k = xs.length := by omega
      go_wp2_with fail
      obtain ⟨w2, rfl⟩ : ∃ w2, w2 = wr := ⟨_, rfl⟩
      have HO : Hid (w2.ownsRow w.heap.size 5 1 (.slice (some ⟨w.heap.size, 0, none⟩) (xs.length + ys.length) (xs.length + ys.length)) (xs.length + ys.length) (filled (xs ++ ys) (xs.length + 0))) := ho
      have HB : Hid (Below w.heap.size w w2) := hb
      clear ho hb
      go_loopw [7] (fun i wr => ∃ k : Nat, k ≤ ys.length ∧ i = .int .i64 k ∧ Hid (wr.ownsRow w.heap.size 5 1 (.slice (some ⟨w.heap.size, 0, none⟩) (xs.length + ys.length) (xs.length + ys.length)) (xs.length + ys.length) (filled (xs ++ ys) (xs.length + k))) ∧ Hid (Below w.heap.size w wr)) (fun i _ => ys.length - (intOf i).toNat)
      case atStart => exact ⟨0, Nat.zero_le _, rfl, HO, HB⟩
      case round =>
        obtain ⟨k, hk, rfl, ho, hb⟩ := hrel
        clear HO HB
        by_cases hlt : k < ys.length
        · have hlt' : (k : Int) < ys.length := by omega
          have hlt'' : (xs.length : Int) + k < xs.length + ys.length := by omega
          obtain ⟨z, hz⟩ : ∃ z, ys[k]? = some z := ⟨_, List.getElem?_eq_getElem hlt⟩
          obtain ⟨g, off, rfl, hc⟩ := (H2.out.later hb.out (Nat.le_refl _)).at (by omega)
          have d1 := hc k z hz
          have d2 := (ho.out.cellAt (xs.length + k) (by omega)).trans (filled_at (xs ++ ys) (xs.length + k) (by rw [HLn.out]; omega))
          have d3 := ho.out.frozenAt (xs.length + k)
          have HO2 : Hid ((wr.setCell ⟨w.heap.size, xs.length + k, none⟩ (.int .u8 z)).ownsRow w.heap.size 5 1 (.slice (some ⟨w.heap.size, 0, none⟩) (xs.length + ys.length) (xs.length + ys.length)) (xs.length + ys.length) (filled (xs ++ ys) (xs.length + (k + 1)))) := by
            have := (ho.out.stored (xs.length + k) (.int .u8 z)).1
            rw [filled_set (xs ++ ys) (xs.length + k) z (app_right hz)] at this
            exact this
          have HB2 : Hid (Below w.heap.size w (wr.setCell ⟨w.heap.size, xs.length + k, none⟩ (.int .u8 z))) := hb.out.setCell (Nat.le_refl _) _
          clear hc hz ho hb H1 H2
          go_wp2_with fail
          go_roundw
          case rel => exact ⟨k + 1, by omega, by go_num, HO2, HB2⟩
          case measure => simp [intOf]; omega
        · have hlt' : ¬ (k : Int) < ys.length := by omega
          obtain rfl : k = ys.length := by omega
          go_wp2_with fail
          go_ret
          refine ⟨_, rfl, ?_, hb.out⟩
          have this := ho.out
          have ef : filled (xs ++ ys) (xs.length + ys.length) = cellsOf (xs ++ ys) := by rw [← HLn.out]; exact filled_all _
          rw [ef] at this
          unfold Owns
          rw [HLn.out]
          exact this

theorem or_add (x n y : Nat) (hy : y < 2 ^ n) : (x * 2 ^ n) ||| y = x * 2 ^ n + y := by
  rw [← Nat.shiftLeft_eq, Nat.shiftLeft_add_eq_or_of_lt hy]

theorem u32_or_step (x n y : Nat) (hy : y < 2 ^ n) (hx : x * 2 ^ n + y < 4294967296) : bits .or .u32 ((x * 2 ^ n : Nat) : Int) (y : Int) = ((x * 2 ^ n + y : Nat) : Int) := by
  rw [u32_or_nat _ _ (by omega) (by omega), or_add x n y hy]

theorem be_read (u : Int) (h0 : 0 ≤ u) (h1 : u ≤ 4294967295) :
    bits .or .u32 (bits .or .u32 (bits .or .u32 (u / 16777216 * 16777216) (u / 65536 % 256 * 65536)) (u / 256 % 256 * 256)) (u % 256) = u := by
  obtain ⟨n, rfl⟩ := Int.eq_ofNat_of_zero_le h0
  have e1 : bits .or .u32 ((n : Int) / 16777216 * 16777216) ((n : Int) / 65536 % 256 * 65536) = ((n / 65536 * 65536 : Nat) : Int) := by
    have := u32_or_step (n / 16777216) 24 (n / 65536 % 256 * 65536) (by omega) (by omega)
    rw [show ((n : Int) / 16777216 * 16777216) = ((n / 16777216 * 2 ^ 24 : Nat) : Int) from by omega, show ((n : Int) / 65536 % 256 * 65536) = ((n / 65536 % 256 * 65536 : Nat) : Int) from by omega, this]
    exact congrArg (fun k : Nat => (k : Int)) (by omega)
  rw [e1]
  have e2 : bits .or .u32 ((n / 65536 * 65536 : Nat) : Int) ((n : Int) / 256 % 256 * 256) = ((n / 256 * 256 : Nat) : Int) := by
    have := u32_or_step (n / 65536) 16 (n / 256 % 256 * 256) (by omega) (by omega)
    rw [show ((n : Int) / 256 % 256 * 256) = ((n / 256 % 256 * 256 : Nat) : Int) from by omega, show n / 65536 * 65536 = n / 65536 * 2 ^ 16 from rfl, this]
    exact congrArg (fun k : Nat => (k : Int)) (by omega)
  rw [e2]
  have := u32_or_step (n / 256) 8 (n % 256) (by omega) (by omega)
  rw [show ((n : Int) % 256) = ((n % 256 : Nat) : Int) from by omega, show n / 256 * 256 = n / 256 * 2 ^ 8 from rfl, this]
  exact congrArg (fun k : Nat => (k : Int)) (by omega)

set_option maxHeartbeats 1000000 in
theorem read_any (u : Int) (rest : List Int) (g c : Nat) (w : World) (h0 : 0 ≤ u) (h1 : u ≤ 4294967295) (h : Rd w w.heap.size (some ⟨g, 0, none⟩) (be32 u ++ rest)) (hl : rest.length ≤ 1073741824) :
    Calls Try.prog 10 #[.slice (some ⟨g, 0, none⟩) (4 + rest.length) c] w fun e w' => e = .returned (.int .u32 u) ∧ ∃ n, w' = w.drewN n := by
  rcases h with h | ⟨g', off, h1, _, hc⟩
  · cases h
  simp only [Option.some.injEq, Addr.mk.injEq, and_true] at h1
  obtain ⟨rfl, rfl⟩ := h1
  have HB : Hid (bits .or .u32 (bits .or .u32 (bits .or .u32 (u / 16777216 * 16777216) (u / 65536 % 256 * 65536)) (u / 256 % 256 * 256)) (u % 256) = u) := be_read u h0 h1
  obtain ⟨x0, e0⟩ : ∃ x, x = u / 16777216 := ⟨_, rfl⟩
  obtain ⟨x1, e1⟩ : ∃ x, x = u / 65536 % 256 := ⟨_, rfl⟩
  obtain ⟨x2, e2⟩ : ∃ x, x = u / 256 % 256 := ⟨_, rfl⟩
  obtain ⟨x3, e3⟩ : ∃ x, x = u % 256 := ⟨_, rfl⟩
  unfold be32 at hc
  rw [← e0, ← e1, ← e2, ← e3] at hc HB
  have d0 : w.cell? ⟨g, 0, none⟩ = _ := hc 0 x0 rfl
  have d1 : w.cell? ⟨g, 1, none⟩ = _ := hc 1 x1 rfl
  have d2 : w.cell? ⟨g, 2, none⟩ = _ := hc 2 x2 rfl
  have d3 : w.cell? ⟨g, 3, none⟩ = _ := hc 3 x3 rfl
  have b00 : 0 ≤ x0 := by omega
  have b01 : x0 ≤ 255 := by omega
  have b10 : 0 ≤ x1 := by omega
  have b11 : x1 ≤ 255 := by omega
  have b20 : 0 ≤ x2 := by omega
  have b21 : x2 ≤ 255 := by omega
  have b30 : 0 ≤ x3 := by omega
  have b31 : x3 ≤ 255 := by omega
  have i0 : (0 : Int) < 4 + (rest.length : Int) := by omega
  have i1 : (1 : Int) < 4 + (rest.length : Int) := by omega
  have i2 : (2 : Int) < 4 + (rest.length : Int) := by omega
  have i3 : (3 : Int) < 4 + (rest.length : Int) := by omega
  clear hc e0 e1 e2 e3
  go_enter Try.func10, Try.ntmps10
  go_wp2_with fail
  go_quiet (fail)
  go_wp2_with fail
  go_ret
  refine ⟨?_, nq, rfl⟩
  show Ending.returned (Value.int IntKind.u32 (bits BinOp.or IntKind.u32 (bits BinOp.or IntKind.u32 (bits BinOp.or IntKind.u32 (x0 * 16777216) (x1 * 65536)) (x2 * 256)) x3)) = _
  rw [HB.out]

/-- what a canonical body is -/
def Canon (m : List Int) : Prop := m = [] ∨ (∃ z t, m = z :: t ∧ 0 < z ∧ z < 128) ∨ ∃ z t, m = 0 :: z :: t ∧ 128 ≤ z

theorem body_canon (ns : List Int) (hB : Byt ns) : Canon (body ns) := by
  have hb := strip_byt ns hB
  cases h : strip ns with
  | nil => exact .inl (body_nil h)
  | cons z t =>
    have hz := strip_head ns z t h
    rw [h] at hb
    have := hb z (by simp)
    by_cases h8 : 128 ≤ z
    · exact .inr (.inr ⟨z, t, body_hi h h8, h8⟩)
    · exact .inr (.inl ⟨z, t, body_lo h h8, by omega, by omega⟩)

set_option maxHeartbeats 1000000 in
theorem canon_any (m : List Int) (ao : Option Addr) (c B : Nat) (w : World) (h : Rd w B ao m) (hC : Canon m) (hB : Byt m) (hl : m.length ≤ 1073741824) :
    Calls Try.prog 11 #[.slice ao m.length c] w fun e w' => e = .returned (.bool true) ∧ w = w' := by
  rcases hC with rfl | ⟨z, t, rfl, hz0, hz1⟩ | ⟨z, t, rfl, hz⟩
  · simp only [List.length_nil]
    go_enter Try.func11, Try.ntmps11
    go_wp2_with fail
    go_ret
    exact ⟨rfl, rfl⟩
  · obtain ⟨g, off, rfl, hc⟩ := h.at (by simp)
    have d0 : w.cell? ⟨g, off, none⟩ = _ := hc 0 z rfl
    have hbit : (bits BinOp.and IntKind.u8 z 128 != 0) = false := by rw [top_bit z (by omega) (by omega)]; simp; omega
    have hzz : (z == 0) = false := by simp; omega
    simp only [List.length_cons] at *
    have hne : (((t.length : Int) + 1) == 0) = false := by simp; omega
    clear hc hB h
    go_enter Try.func11, Try.ntmps11
    go_wp2_with fail
    go_ret
    exact ⟨rfl, rfl⟩
  · obtain ⟨g, off, rfl, hc⟩ := h.at (by simp)
    have d0 : w.cell? ⟨g, off, none⟩ = _ := hc 0 0 rfl
    have d1 : w.cell? ⟨g, off + 1, none⟩ = _ := hc 1 z rfl
    have h255 := (hB z (by simp)).2
    have hbit0 : (bits BinOp.and IntKind.u8 0 128 != 0) = false := by rw [top_bit 0 (by omega) (by omega)]; simp
    have hbit : (bits BinOp.and IntKind.u8 z 128 != 0) = true := by rw [top_bit z (by omega) (by omega)]; simpa using hz
    simp only [List.length_cons] at *
    have hne : (((t.length : Int) + 1 + 1) == 0) = false := by simp; omega
    clear hc hB h
    go_enter Try.func11, Try.ntmps11
    go_wp2_with fail
    go_ret
    exact ⟨rfl, rfl⟩
end Go.Proofs.Qxb6628551a

import Derived.Test.Qxb6628021aWalks
namespace Go.Proofs.Qxb6628021a
open Go.ChangeShapes Go.WideShapes Go.ChangeAt Go.RowKit Plain

theorem byte_at (s : ByteArray) (k : Nat) (h : k < s.size) : s.data.toList[k]? = some s[k] := by
  rw [List.getElem?_eq_getElem (by simpa using h)]; rfl
theorem at2_iff (s : ByteArray) (k : Nat) (a b : UInt8) (h : k + 1 < s.size) :
    at2 s.data.toList k a b = true ↔ (s[k].toNat : Int) = a.toNat ∧ (s[k + 1].toNat : Int) = b.toNat := by
  unfold at2
  rw [byte_at s k (by omega), byte_at s (k + 1) h]
  simp only [Option.some_beq_some, Bool.and_eq_true, beq_iff_eq, ← UInt8.toNat_inj]
  omega
theorem at2_no (s : ByteArray) (k : Nat) (a b : UInt8) (h : k + 1 < s.size) (hn : ¬ ((s[k].toNat : Int) = a.toNat ∧ (s[k + 1].toNat : Int) = b.toNat)) :
    at2 s.data.toList k a b = false := by
  cases hh : at2 s.data.toList k a b
  · rfl
  · exact absurd ((at2_iff s k a b h).1 hh) hn

/-- What the nested reader's round finds, in the walk's own words. -/
theorem way_open {s : ByteArray} {k : Nat} (h : k + 1 < s.size) (h1 : (s[k].toNat : Int) = 47) (h2 : ((s[k + 1].toNat : Int) == 42) = true) : at2 s.data.toList k 47 42 = true :=
  (at2_iff s k 47 42 h).2 ⟨h1, by simpa using h2⟩
theorem way_close {s : ByteArray} {k : Nat} (h : k + 1 < s.size) (h1 : (s[k].toNat : Int) = 42) (h2 : ((s[k + 1].toNat : Int) == 47) = true) : at2 s.data.toList k 42 47 = true :=
  (at2_iff s k 42 47 h).2 ⟨h1, by simpa using h2⟩
theorem way_none1 {s : ByteArray} {k : Nat} (h : k + 1 < s.size) (h1 : (s[k].toNat : Int) = 47) (h2 : ((s[k + 1].toNat : Int) == 42) = false) (d : Int) : CE s.data.toList k d = CE s.data.toList (k + 1) d := by
  have e2 : ¬ ((s[k + 1].toNat : Int) = 42) := by simpa using h2
  exact CE_other d (by show k < s.size; omega) (at2_no s k 47 42 h (fun c => e2 c.2)) (at2_no s k 42 47 h (fun c => by have := c.1; rw [h1] at this; exact absurd this (by decide)))
theorem way_none2 {s : ByteArray} {k : Nat} (h : k + 1 < s.size) (h1 : (s[k].toNat : Int) = 42) (h2 : ((s[k + 1].toNat : Int) == 47) = false) (d : Int) : CE s.data.toList k d = CE s.data.toList (k + 1) d := by
  have e2 : ¬ ((s[k + 1].toNat : Int) = 47) := by simpa using h2
  exact CE_other d (by show k < s.size; omega) (at2_no s k 47 42 h (fun c => by have := c.1; rw [h1] at this; exact absurd this (by decide))) (at2_no s k 42 47 h (fun c => e2 c.2))
theorem way_none3 {s : ByteArray} {k : Nat} (h : k + 1 < s.size) (h1 : ¬ (s[k].toNat : Int) = 47) (h2 : ¬ (s[k].toNat : Int) = 42) (d : Int) : CE s.data.toList k d = CE s.data.toList (k + 1) d :=
  CE_other d (by show k < s.size; omega) (at2_no s k 47 42 h (fun c => h1 c.1)) (at2_no s k 42 47 h (fun c => h2 c.1))

set_option maxHeartbeats 1000000 in
theorem close_any (s : ByteArray) (hs : s.size ≤ 1048576) (n : Nat) : ∀ (p0 : Nat) (w : World), p0 ≤ s.size → s.size - p0 ≤ n →
    Calls Try.prog 7 #[.string s, .int .i64 p0] w fun e w' => e = .returned (.int .i64 (CE s.data.toList p0 1)) ∧ w' = w := by
  have hm : s.size ≤ maxLen := by unfold maxLen; omega
  induction n with
  | zero =>
    intro p0 w hp hn
    have HC : Hid (CE s.data.toList p0 1 = p0) := CE_end 1 (by show s.size ≤ p0; omega)
    have hge : ¬ (p0 : Int) < s.size := by omega
    go_enter Try.func7, Try.ntmps7
    go_wp2_with fail
    go_loop [1] (fun i => i = .int .i64 p0) (fun _ => 0)
    case atStart => rfl
    case round =>
      subst hrel
      go_wp2_with fail
      go_ret
      exact ⟨ret_int (by rw [HC.out]), rfl⟩
  | succ n ih0 =>
  intro p0 w hp hn
  have ih : Hid (∀ (p0 : Nat) (w : World), p0 ≤ s.size → s.size - p0 ≤ n →
    Calls Try.prog 7 #[.string s, .int .i64 p0] w fun e w' => e = .returned (.int .i64 (CE s.data.toList p0 1)) ∧ w' = w) := ih0
  clear ih0
  go_enter Try.func7, Try.ntmps7
  go_wp2_with fail
  go_loop [1] (fun i => ∃ (k : Nat), p0 ≤ k ∧ k ≤ s.size ∧ i = .int .i64 k ∧ Hid (CE s.data.toList k 1 = CE s.data.toList p0 1)) (fun i => s.size - (intOf i).toNat)
  case atStart => exact ⟨p0, Nat.le_refl _, hp, rfl, rfl⟩
  case round =>
    obtain ⟨k, hk0, hk, rfl, hCE⟩ := hrel
    by_cases hlt : k < s.size
    · by_cases hlt2 : k + 1 < s.size
      · go_wp2_with fail
        · have ho := way_open hlt2 ‹_› ‹_›
          have HC : Hid (CE s.data.toList (CE s.data.toList (k + 2) 1) 1 = CE s.data.toList p0 1) := by rw [← hCE.out, CE_descend ho]; rfl
          have hq1 := CE_ge s.data.toList (k + 2) 1
          have hq2 : CE s.data.toList (k + 2) 1 ≤ s.size := CE_le s.data.toList (k + 2) 1 (by show k + 2 ≤ s.size; omega)
          rw [show ((k : Int) + 2) = ((k + 2 : Nat) : Int) from by omega]
          refine (ih.out (k + 2) _ (by omega) (by omega)).mono ?_
          rintro e w' ⟨rfl, rfl⟩
          generalize CE s.data.toList (k + 2) 1 = q at *
          clear ho
          go_wp2_with fail
          go_round
          case rel => exact ⟨q, by omega, hq2, rfl, HC⟩
          case measure => simp [intOf]; omega
        · have HC : Hid (CE s.data.toList (k + 1) 1 = CE s.data.toList p0 1) := by rw [← hCE.out, way_none1 hlt2 ‹_› ‹_›]; rfl
          go_round
          case rel => exact ⟨k + 1, by omega, by omega, by go_num, HC⟩
          case measure => simp [intOf]; omega
        · have HC : Hid (CE s.data.toList p0 1 = k + 2) := by rw [← hCE.out, CE_last (at2_excl (way_close hlt2 ‹_› ‹_›)) (way_close hlt2 ‹_› ‹_›)]; rfl
          go_ret
          exact ⟨ret_int (by rw [HC.out]; rfl), rfl⟩
        · have HC : Hid (CE s.data.toList (k + 1) 1 = CE s.data.toList p0 1) := by rw [← hCE.out, way_none2 hlt2 ‹_› ‹_›]; rfl
          go_round
          case rel => exact ⟨k + 1, by omega, by omega, by go_num, HC⟩
          case measure => simp [intOf]; omega
        · have HC : Hid (CE s.data.toList (k + 1) 1 = CE s.data.toList p0 1) := by rw [← hCE.out, way_none3 hlt2 ‹_› ‹_›]; rfl
          go_round
          case rel => exact ⟨k + 1, by omega, by omega, by go_num, HC⟩
          case measure => simp [intOf]; omega
      · have HC : Hid (CE s.data.toList (k + 1) 1 = CE s.data.toList p0 1) := by
          rw [← hCE.out, CE_other 1 (show k < s.data.toList.length from hlt) (at2_short _ _ (by show s.size ≤ _; omega)) (at2_short _ _ (by show s.size ≤ _; omega))]; rfl
        have hge : ¬ (k : Int) + 1 < s.size := by omega
        go_wp2_with fail
        go_round
        case rel => exact ⟨k + 1, by omega, by omega, by go_num, HC⟩
        case measure => simp [intOf]; omega
    · have HC : Hid (CE s.data.toList p0 1 = k) := by rw [← hCE.out, CE_end 1 (by show s.size ≤ k; omega)]; rfl
      clear hCE
      go_wp2_with fail
      go_ret
      exact ⟨ret_int (by rw [HC.out]), rfl⟩
end Go.Proofs.Qxb6628021a

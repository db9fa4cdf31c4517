import Derived.Test.Qxb6628598aClone
namespace Go.Proofs.Qxb6628598a
open Go.ChangeShapes Go.WideShapes Go.ChangeAt Go.RowKit

theorem flat_get : ∀ (svs : List Value) (ls : List Lvl) (j i : Nat) (sv : Value) (l : Lvl), svs[j]? = some sv → ls[j]? = some l → i < 6 → (flat svs ls)[j * 6 + i]? = (lrow sv l)[i]?
  | s :: svs, m :: ls, 0, i, sv, l, h1, h2, hi => by
    simp at h1 h2
    subst h1 h2
    rw [flat, Nat.zero_mul, Nat.zero_add]
    exact List.getElem?_append_left (by simpa [lrow] using hi)
  | s :: svs, m :: ls, j + 1, i, sv, l, h1, h2, hi => by
    rw [flat, List.getElem?_append_right (by simp [lrow]; omega)]
    rw [show (j + 1) * 6 + i - (lrow s m).length = j * 6 + i from by simp [lrow]; omega]
    exact flat_get svs ls j i sv l (by simpa using h1) (by simpa using h2) hi
  | [], _, j, _, _, _, h1, _, _ => by simp at h1
  | _ :: _, [], j, _, _, _, _, h2, _ => by simp at h2

theorem Part.lvls {w wr : World} {svs : List Value} {ls : List Lvl} (h : Part w wr ls.length ls.length svs ls) : LvlsAt wr wr.heap.size (some ⟨w.heap.size, 0, none⟩) ls := by
  by_cases h0 : ls = []
  · exact .inl h0
  refine .inr ⟨w.heap.size, 0, rfl, (h.row.lt w.heap.size rfl).2, fun j l hj => ?_⟩
  have hjl : j < ls.length := (List.getElem?_eq_some_iff.1 hj).1
  obtain ⟨sv, hsv⟩ : ∃ sv, svs[j]? = some sv := ⟨_, List.getElem?_eq_getElem (by rw [h.len]; exact hjl)⟩
  have key : ∀ i, i < 6 → wr.cell? ⟨w.heap.size, 0 + j * 6 + i, none⟩ = (lrow sv l)[i]? := by
    intro i hi
    rw [Nat.zero_add, h.row.cellAt (j * 6 + i) (by omega)]
    rw [List.take_of_length_le (Nat.le_refl _), List.getElem?_append_left (by rw [flat_length _ _ h.len]; omega)]
    exact flat_get svs ls j i sv l hsv hj hi
  exact ⟨sv, (h.inner j sv l hsv hj).slc, key 0 (by omega), key 1 (by omega), key 2 (by omega), key 3 (by omega), key 4 (by omega), key 5 (by omega)⟩

set_option maxHeartbeats 1000000 in
theorem levels_nil (w : World) :
    Calls Try.prog 7 #[.slice none 0 0] w fun e w' => e = .returned (.slice none 0 0) ∧ w = w' := by
  have he := fun wx : World => Lib.run_eql_slice_nil (P := Try.prog) wx 22 33 none 0 0 0 0 Try.underlying22
  go_enter Try.func7, Try.ntmps7
  go_wp2_with fail
  go_ret
  exact ⟨rfl, rfl⟩

theorem LvlsAt.nil {w : World} {B : Nat} {ao : Option Addr} {ls : List Lvl} (h : LvlsAt w B ao ls) (ha : ao = none) : ls = [] := by
  rcases h with h | ⟨g, off, h1, _⟩
  · exact h
  · rw [h1] at ha; cases ha

/-- fnCloneLevels: a fresh slice that reads the same -/
theorem levels_any (ls : List Lvl) (ao : Option Addr) (c B : Nat) (w : World) (hr : LvlsAt w B ao ls) (hB : B ≤ w.heap.size) (hc : ao = none → c = 0) (hn : ls.length ≤ 65536) (hs : ∀ l ∈ ls, l.1.length ≤ 131072) :
    Calls Try.prog 7 #[.slice ao ls.length c] w fun e w' => ∃ ao' c', e = .returned (.slice ao' ls.length c') ∧ LvlsAt w' w'.heap.size ao' ls ∧ ls.length ≤ c' ∧ c' ≤ 65536 ∧ (ao' = none → c' = 0) ∧ Below w.heap.size w w' := by
  cases ao with
  | none =>
    obtain rfl := hr.nil rfl
    obtain rfl := hc rfl
    refine (levels_nil w).mono ?_
    rintro e w' ⟨rfl, rfl⟩
    exact ⟨none, 0, rfl, .inl rfl, by simp, by omega, fun _ => rfl, Below.refl _ _⟩
  | some ad =>
    refine (levels_some ls ad c w (hr.later (Below.refl _ _) (Nat.le_refl _) hB) hn hs).mono ?_
    rintro e w' ⟨rfl, svs, hP⟩
    exact ⟨_, _, rfl, hP.lvls, Nat.le_refl _, hn, (fun e => by cases e), hP.below⟩

def Small (l : Lvl) : Prop := l.1.length ≤ 131072 ∧ l.2.2.2.2.1.size ≤ 1048576

theorem small_step {ls : List Lvl} {k : Nat} {l : Lvl} (hl : ls[k]? = some l) (h : ∀ j m, j < k → ls[j]? = some m → Small m) (hs : Small l) : ∀ j m, j < k + 1 → ls[j]? = some m → Small m := by
  intro j m hj hm
  by_cases e : j = k
  · subst e; rw [hl] at hm; obtain rfl := Option.some.inj hm; exact hs
  · exact h j m (by omega) hm
theorem small_all {ls : List Lvl} (h : ∀ j m, j < ls.length → ls[j]? = some m → Small m) : ∀ l ∈ ls, Small l := by
  intro l hl
  obtain ⟨j, hj⟩ := List.getElem?_of_mem hl
  exact h j l (List.getElem?_eq_some_iff.1 hj).1 hj

theorem LvlsAt.at {w : World} {B : Nat} {ao : Option Addr} {ls : List Lvl} (h : LvlsAt w B ao ls) {k : Nat} {l : Lvl} (hl : ls[k]? = some l) :
    ∃ g off sa sc, ao = some ⟨g, off, none⟩ ∧ w.cell? ⟨g, off + k * 6, none⟩ = some (.slice sa l.1.length sc) ∧ w.cell? ⟨g, off + k * 6 + 4, none⟩ = some (.string l.2.2.2.2.1) := by
  rcases h with rfl | ⟨g, off, ha, _, hc⟩
  · simp at hl
  · obtain ⟨sv, ⟨sa, sc, rfl, _⟩, c0, _, _, _, c4, _⟩ := hc k l hl
    exact ⟨g, off, sa, sc, ha, c0, c4⟩

/-- what fnTooBig answers -/
def BigPost (w : World) (ls ms : List Lvl) (e : Ending) (w' : World) : Prop :=
  ∃ b : Bool, e = .returned (.bool b) ∧ (∃ n, w' = w.drewN n) ∧ (b = false → ls.length ≤ 65536 ∧ ms.length ≤ 65536 ∧ (∀ l ∈ ls, Small l) ∧ ∀ l ∈ ms, Small l)
theorem big_yes (w : World) (ls ms : List Lvl) (n : Nat) : BigPost w ls ms (.returned (.bool true)) (w.drewN n) := ⟨true, rfl, ⟨n, rfl⟩, fun h => by cases h⟩
theorem big_no (w : World) (ls ms : List Lvl) (n : Nat) (h1 : ls.length ≤ 65536) (h2 : ms.length ≤ 65536) (h3 : ∀ j m, j < ls.length → ls[j]? = some m → Small m) (h4 : ∀ j m, j < ms.length → ms[j]? = some m → Small m) :
    BigPost w ls ms (.returned (.bool false)) (w.drewN n) := ⟨false, rfl, ⟨n, rfl⟩, fun _ => ⟨h1, h2, small_all h3, small_all h4⟩⟩

set_option maxRecDepth 100000 in
set_option maxHeartbeats 4000000 in
theorem big_any (ls ms : List Lvl) (ao1 ao2 : Option Addr) (c1 c2 B : Nat) (w : World) (h1 : LvlsAt w B ao1 ls) (h2 : LvlsAt w B ao2 ms) :
    Calls Try.prog 6 #[.slice ao1 ls.length c1, .slice ao2 ms.length c2] w fun e w' => BigPost w ls ms e w' := by
  have H1 : Hid (LvlsAt w B ao1 ls) := h1
  have H2 : Hid (LvlsAt w B ao2 ms) := h2
  clear h1 h2
  by_cases hn1 : (65536 : Int) < ls.length
  · go_enter Try.func6, Try.ntmps6
    go_wp2_with fail
    go_ret
    exact big_yes w ls ms 0
  by_cases hn2 : (65536 : Int) < ms.length
  · go_enter Try.func6, Try.ntmps6
    go_wp2_with fail
    go_ret
    exact big_yes w ls ms 0
  go_enter Try.func6, Try.ntmps6
  go_wp2_with fail
  go_loopw [5, 6] (fun s i wr => ∃ k t n : Nat, k ≤ ls.length ∧ i = .int .i64 k ∧ s = .int .i64 t ∧ t ≤ 1048576 ∧ wr = w.drewN n ∧ Hid (∀ j m, j < k → ls[j]? = some m → Small m)) (fun _ i _ => ls.length - (intOf i).toNat)
  case atStart => exact ⟨0, 0, 0, Nat.zero_le _, rfl, rfl, by omega, rfl, fun j m hj => by omega⟩
  case round =>
    obtain ⟨k, t, n, hk, rfl, rfl, ht, rfl, hS⟩ := hrel
    by_cases hlt : k < ls.length
    · have hlt' : (k : Int) < ls.length := by omega
      have hlt0 : (0 : Int) ≤ k := by omega
      obtain ⟨l, hl⟩ : ∃ l, ls[k]? = some l := ⟨_, List.getElem?_eq_getElem hlt⟩
      obtain ⟨g, off, sa, sc, rfl, d0, d4⟩ := H1.out.at hl
      by_cases hi1 : (131072 : Int) < l.1.length
      · clear hS hl
        go_wp2_with fail
        go_ret
        exact big_yes w ls ms n
      by_cases hi2 : (1048576 : Int) < l.2.2.2.2.1.size
      · clear hS hl
        go_wp2_with fail
        go_ret
        exact big_yes w ls ms n
      have hS2 : Hid (∀ j m, j < k + 1 → ls[j]? = some m → Small m) := small_step hl hS.out ⟨by omega, by omega⟩
      clear hS hl
      generalize l.1.length = ni at *
      generalize l.2.2.2.2.1 = fe at *
      by_cases ht2 : (1048576 : Int) < (t : Int) + 64 + 8 * ni + fe.size
      · clear hS2
        go_wp2_with fail
        go_quiet (fail)
        go_wp2_with fail
        go_ret
        exact big_yes w ls ms _
      · go_wp2_with fail
        go_quiet (fail)
        go_wp2_with fail
        go_roundw
        case rel => exact ⟨k + 1, t + 64 + 8 * ni + fe.size, _, by omega, by go_num, by go_num, by omega, rfl, hS2⟩
        case measure => simp [intOf]; omega
    · have hlt' : ¬ (k : Int) < ls.length := by omega
      obtain rfl : k = ls.length := by omega
      have HS1 : Hid (∀ j m, j < ls.length → ls[j]? = some m → Small m) := hS
      clear hS
      go_wp2_with fail

      go_loopw [5, 7] (fun s i wr => ∃ k t n : Nat, k ≤ ms.length ∧ i = .int .i64 k ∧ s = .int .i64 t ∧ t ≤ 1048576 ∧ wr = w.drewN n ∧ Hid (∀ j m, j < k → ms[j]? = some m → Small m)) (fun _ i _ => ms.length - (intOf i).toNat)
      case atStart => exact ⟨0, t, n, Nat.zero_le _, rfl, rfl, ht, rfl, fun j m hj => by omega⟩
      case round =>
        obtain ⟨k, t, n, hk, rfl, rfl, ht, rfl, hS⟩ := hrel
        by_cases hlt : k < ms.length
        · have hlt' : (k : Int) < ms.length := by omega
          have hlt0 : (0 : Int) ≤ k := by omega
          obtain ⟨l, hl⟩ : ∃ l, ms[k]? = some l := ⟨_, List.getElem?_eq_getElem hlt⟩
          obtain ⟨g, off, sa, sc, rfl, d0, d4⟩ := H2.out.at hl
          by_cases hi1 : (131072 : Int) < l.1.length
          · clear hS hl
            go_wp2_with fail
            go_ret
            exact big_yes w ls ms n
          by_cases hi2 : (1048576 : Int) < l.2.2.2.2.1.size
          · clear hS hl
            go_wp2_with fail
            go_ret
            exact big_yes w ls ms n
          have hS2 : Hid (∀ j m, j < k + 1 → ms[j]? = some m → Small m) := small_step hl hS.out ⟨by omega, by omega⟩
          clear hS hl
          generalize l.1.length = ni at *
          generalize l.2.2.2.2.1 = fe at *
          by_cases ht2 : (1048576 : Int) < (t : Int) + 64 + 8 * ni + fe.size
          · clear hS2
            go_wp2_with fail
            go_quiet (fail)
            go_wp2_with fail
            go_ret
            exact big_yes w ls ms _
          · go_wp2_with fail
            go_quiet (fail)
            go_wp2_with fail
            go_roundw
            case rel => exact ⟨k + 1, t + 64 + 8 * ni + fe.size, _, by omega, by go_num, by go_num, by omega, rfl, hS2⟩
            case measure => simp [intOf]; omega
        · have hlt' : ¬ (k : Int) < ms.length := by omega
          obtain rfl : k = ms.length := by omega
          go_wp2_with fail
          go_ret
          exact big_no w ls ms n (by omega) (by omega) HS1.out hS.out

/-- some bool, the world as it was -/
def BoolPost (w : World) (e : Ending) (w' : World) : Prop := ∃ b : Bool, e = .returned (.bool b) ∧ w = w'
theorem bool_post (w : World) (b : Bool) : BoolPost w (.returned (.bool b)) w := ⟨b, rfl, rfl⟩

set_option maxRecDepth 100000 in
set_option maxHeartbeats 4000000 in
theorem zz11_any (ls ms : List Lvl) (ao1 ao2 : Option Addr) (c1 c2 B : Nat) (i : Int) (w : World) (h1 : LvlsAt w B ao1 ls) (h2 : LvlsAt w B ao2 ms) :
    Calls Try.prog 11 #[.slice ao1 ls.length c1, .slice ao2 ms.length c2, .int .i64 i] w fun e w' => BoolPost w e w' := by
  have H1 : Hid (LvlsAt w B ao1 ls) := h1
  have H2 : Hid (LvlsAt w B ao2 ms) := h2
  clear h1 h2
  by_cases hn1 : (1048576 : Int) < ls.length
  · go_enter Try.func11, Try.ntmps11
    go_wp2_with fail
    go_ret
    exact bool_post w _
  go_enter Try.func11, Try.ntmps11
  go_wp2_with fail
  go_loop [7, 8] (fun s i => ∃ k t : Nat, k ≤ ls.length ∧ i = .int .i64 k ∧ s = .int .i64 t ∧ t ≤ 1048576) (fun _ i => ls.length - (intOf i).toNat)
  case atStart => exact ⟨0, ls.length, Nat.zero_le _, rfl, rfl, by omega⟩
  case round =>
    obtain ⟨k, t, hk, rfl, rfl, ht⟩ := hrel
    by_cases hlt : k < ls.length
    · have hlt' : (k : Int) < ls.length := by omega
      have hlt0 : (0 : Int) ≤ k := by omega
      obtain ⟨l, hl⟩ : ∃ l, ls[k]? = some l := ⟨_, List.getElem?_eq_getElem hlt⟩
      obtain ⟨g, off, sa, sc, rfl, d0, d4⟩ := H1.out.at hl
      clear hl
      generalize l.1.length = ni at *
      generalize l.2.2.2.2.1 = fe at *
      by_cases hi1 : (1048576 : Int) < ni
      · go_wp2_with fail
        go_ret
        exact bool_post w _
      by_cases hi2 : (1048576 : Int) < (t : Int) + ni
      · go_wp2_with fail
        go_ret
        exact bool_post w _
      by_cases hi3 : (1048576 : Int) < fe.size
      · go_wp2_with fail
        go_ret
        exact bool_post w _
      by_cases hi4 : (1048576 : Int) < (t : Int) + ni + fe.size
      · go_wp2_with fail
        go_ret
        exact bool_post w _
      · go_wp2_with fail
        go_round
        case rel => exact ⟨k + 1, t + ni + fe.size, by omega, by go_num, by go_num, by omega⟩
        case measure => simp [intOf]; omega
    · have hlt' : ¬ (k : Int) < ls.length := by omega
      by_cases hm1 : (1048576 : Int) < ms.length
      · go_wp2_with fail
        go_ret
        exact bool_post w _
      by_cases hm2 : (1048576 : Int) < (t : Int) + ms.length
      · go_wp2_with fail
        go_ret
        exact bool_post w _
      · go_wp2_with fail
        go_loop [7, 9] (fun s i => ∃ k t : Nat, k ≤ ms.length ∧ i = .int .i64 k ∧ s = .int .i64 t ∧ t ≤ 1048576) (fun _ i => ms.length - (intOf i).toNat)
        case atStart => exact ⟨0, t + ms.length, Nat.zero_le _, rfl, by go_num, by omega⟩
        case round =>
          obtain ⟨k, t, hk, rfl, rfl, ht⟩ := hrel
          by_cases hlt : k < ms.length
          · have hlt' : (k : Int) < ms.length := by omega
            have hlt0 : (0 : Int) ≤ k := by omega
            obtain ⟨l, hl⟩ : ∃ l, ms[k]? = some l := ⟨_, List.getElem?_eq_getElem hlt⟩
            obtain ⟨g, off, sa, sc, rfl, d0, d4⟩ := H2.out.at hl
            clear hl
            generalize l.1.length = ni at *
            generalize l.2.2.2.2.1 = fe at *
            by_cases hi1 : (1048576 : Int) < ni
            · go_wp2_with fail
              go_ret
              exact bool_post w _
            by_cases hi2 : (1048576 : Int) < (t : Int) + ni
            · go_wp2_with fail
              go_ret
              exact bool_post w _
            by_cases hi3 : (1048576 : Int) < fe.size
            · go_wp2_with fail
              go_ret
              exact bool_post w _
            by_cases hi4 : (1048576 : Int) < (t : Int) + ni + fe.size
            · go_wp2_with fail
              go_ret
              exact bool_post w _
            · go_wp2_with fail
              go_round
              case rel => exact ⟨k + 1, t + ni + fe.size, by omega, by go_num, by go_num, by omega⟩
              case measure => simp [intOf]; omega
          · have hlt' : ¬ (k : Int) < ms.length := by omega
            go_wp2_with fail
            go_ret
            exact bool_post w _

set_option maxRecDepth 100000 in
set_option maxHeartbeats 4000000 in
theorem zz5_any (ls : List Lvl) (ao1 : Option Addr) (c1 B : Nat) (i j : Int) (w : World) (h1 : LvlsAt w B ao1 ls) :
    Calls Try.prog 5 #[.slice ao1 ls.length c1, .int .i64 i, .int .i64 j] w fun e w' => BoolPost w e w' := by
  have H1 : Hid (LvlsAt w B ao1 ls) := h1
  clear h1
  by_cases hn1 : (1048576 : Int) < ls.length
  · go_enter Try.func5, Try.ntmps5
    go_wp2_with fail
    go_ret
    exact bool_post w _
  go_enter Try.func5, Try.ntmps5
  go_wp2_with fail
  go_loop [7, 8] (fun s i => ∃ k t : Nat, k ≤ ls.length ∧ i = .int .i64 k ∧ s = .int .i64 t ∧ t ≤ 1048576) (fun _ i => ls.length - (intOf i).toNat)
  case atStart => exact ⟨0, ls.length, Nat.zero_le _, rfl, rfl, by omega⟩
  case round =>
    obtain ⟨k, t, hk, rfl, rfl, ht⟩ := hrel
    by_cases hlt : k < ls.length
    · have hlt' : (k : Int) < ls.length := by omega
      have hlt0 : (0 : Int) ≤ k := by omega
      obtain ⟨l, hl⟩ : ∃ l, ls[k]? = some l := ⟨_, List.getElem?_eq_getElem hlt⟩
      obtain ⟨g, off, sa, sc, rfl, d0, d4⟩ := H1.out.at hl
      clear hl
      generalize l.1.length = ni at *
      generalize l.2.2.2.2.1 = fe at *
      by_cases hi1 : (1048576 : Int) < ni
      · go_wp2_with fail
        go_ret
        exact bool_post w _
      by_cases hi2 : (1048576 : Int) < (t : Int) + ni
      · go_wp2_with fail
        go_ret
        exact bool_post w _
      by_cases hi3 : (1048576 : Int) < fe.size
      · go_wp2_with fail
        go_ret
        exact bool_post w _
      by_cases hi4 : (1048576 : Int) < (t : Int) + ni + fe.size
      · go_wp2_with fail
        go_ret
        exact bool_post w _
      · go_wp2_with fail
        go_round
        case rel => exact ⟨k + 1, t + ni + fe.size, by omega, by go_num, by go_num, by omega⟩
        case measure => simp [intOf]; omega
    · have hlt' : ¬ (k : Int) < ls.length := by omega
      go_wp2_with fail
      go_ret
      exact bool_post w _
end Go.Proofs.Qxb6628598a

import Derived.Test.Qxb6628598aChgWalks
namespace Go.Proofs.Qxb6628598a
open Go.ChangeShapes Go.WideShapes Go.ChangeAt Go.RowKit

theorem six_at (W : World) (e : TypeId) (b : Nat) (hb : b = W.heap.size) : ∀ j u, zrow[j]? = some u → (W.alloc (.cells #[.slice none 0 0, .bool false, .int .i64 0, .bool false, .string ⟨#[]⟩, .int .i64 0] e)).cell? ((⟨b, 0, none⟩ : Addr).add j) = some u := by
  subst hb
  intro j u hu
  unfold zrow at hu
  match j, hu with
  | 0, hu => simp at hu; subst hu; simp [Addr.add_lit]
  | 1, hu => simp at hu; subst hu; simp [Addr.add_lit]
  | 2, hu => simp at hu; subst hu; simp [Addr.add_lit]
  | 3, hu => simp at hu; subst hu; simp [Addr.add_lit]
  | 4, hu => simp at hu; subst hu; simp [Addr.add_lit]
  | 5, hu => simp at hu; subst hu; simp [Addr.add_lit]
  | j + 6, hu => simp at hu
theorem zrow_one : ∀ u ∈ zrow, u.oneCell' = true := by
  intro u hu
  simp [zrow] at hu
  rcases hu with rfl | rfl | rfl | rfl | rfl | rfl <;> rfl
theorem row_form {w : World} {base n : Nat} {v : Value} {xs : List Value} (h : w.ownsRow base 33 6 v (n + 1) xs) : ∃ va vc, v = .slice va (n + 1) vc := by
  rcases h.2 with ⟨_, h0⟩ | ⟨g, cap, cur, hv, _⟩
  · omega
  · exact ⟨_, _, hv⟩

theorem ch_more {w wA : World} {svs : List Value} {ls : List Lvl} {v : Value} (hlen : svs.length = ls.length) (row : wA.ownsRow w.heap.size 33 6 v (ls.length + 1) (flat svs ls ++ zrow))
    (hI : ∀ (j : Nat) (s : Value) (m : Lvl), svs[j]? = some s → ls[j]? = some m → SlcAt wA wA.heap.size s m.1) (hb : Below w.heap.size w wA) (hn : ls.length ≤ 65536) (hs : ∀ l ∈ ls, l.1.length ≤ 131072) {e : Ending} (he : e = .returned v) : ChPost w ls e wA := by
  have hfl : flat (svs ++ [.slice none 0 0]) (ls ++ [zl]) = flat svs ls ++ zrow := flat_snoc svs ls (.slice none 0 0) zl hlen
  refine ch_of he (ms := ls ++ [zl]) (svs := svs ++ [.slice none 0 0]) (base := w.heap.size) (by rw [hfl, List.length_append]; exact row) (by simp [hlen]) ?_ hb ?_ (by simp; omega) ?_
  · intro j s m hj hm
    by_cases hjl : j < ls.length
    · rw [List.getElem?_append_left (by omega)] at hj
      rw [List.getElem?_append_left hjl] at hm
      exact hI j s m hj hm
    · rw [List.getElem?_append_right (by omega)] at hj hm
      have hj0 : j - ls.length = 0 := by have := (List.getElem?_eq_some_iff.1 hm).1; simp at this; omega
      rw [hj0] at hm
      rw [hlen, hj0] at hj
      simp at hj hm
      subst hj hm
      exact ⟨none, 0, rfl, fun _ => rfl, .inl rfl⟩
  · intro e
    have := congrArg List.length e
    simp at this
  · intro m hm
    rcases List.mem_append.1 hm with hm | hm
    · have := hs m hm; omega
    · simp at hm; subst hm; simp [zl]

set_option maxRecDepth 100000 in
set_option maxHeartbeats 4000000 in
theorem chg_out (ls : List Lvl) (ad : Addr) (c : Nat) (k which : Int) (hk : k < 0 ∨ (ls.length : Int) ≤ k) (w : World) (hr : LvlsAt w w.heap.size (some ad) ls) (hn : ls.length ≤ 65536) (hs : ∀ l ∈ ls, l.1.length ≤ 131072) :
    Calls Try.prog 10 #[.slice (some ad) ls.length c, .int .i64 k, .int .i64 which] w fun e w' => ChPost w ls e w' := by
  obtain ⟨i0, hi, hz0, hz1, hz2⟩ := info_parts Try.info33
  have HS : Hid (∀ l ∈ ls, l.1.length ≤ 131072) := hs
  have HK : Hid (k < 0 ∨ (ls.length : Int) ≤ k) := hk
  clear hs hk
  go_enter Try.func10, Try.ntmps10
  go_wp2_with fail
  refine (levels_some ls ad c w hr hn HS.out).mono ?_
  rintro e w1 ⟨rfl, svs, hP⟩
  have HP : Hid (Part w w1 ls.length ls.length svs ls) := hP
  have hzz := (hP.row.lt w.heap.size rfl).2
  have HROW : Hid (w1.ownsRow w.heap.size 33 6 (.slice (some ⟨w.heap.size, 0, none⟩) ls.length ls.length) ls.length (flat svs ls)) := hP.row'
  clear hP hr
  by_cases hk0 : k < 0
  all_goals
    have hk1 : k < 0 ∨ (ls.length : Int) ≤ k := HK.out
    clear HK
    try (have hk2 : (ls.length : Int) ≤ k := by omega)
    clear hk1
    go_wp2_with (first
      | (at_builtin; refine wpList_append_own _ rfl (.tmp 18) (.tmp 20) 22 rfl w.heap.size 33 i0 (.agg zrow.toArray) 6 72 Try.underlying22 hi hz0 hz1 hz2 rfl (by decide) (.slice (some ⟨w.heap.size, 0, none⟩) ls.length ls.length) ls.length (flat svs ls) rfl (HROW.out.alloc _) ⟨w1.heap.size, 0, none⟩ 1 1 zrow rfl rfl (by exact six_at _ 33 _ (by simp)) zrow_one (by unfold maxLen; omega) (by omega) (by simp; omega) ?_; intro v' wA hown' hgrow' _
         obtain ⟨va, vc, rfl⟩ := row_form hown'
         have HG : Hid (∀ b, b < w1.heap.size → w.heap.size ≠ b → wA.heap[b]? = w1.heap[b]?) := fun b hb hne => (hgrow'.block b (by simp; omega) (fun e => by simp [Value.ownBlock] at e; exact hne e.symm)).trans (Below.heap_alloc _ _ _ hb)
         have HOA : Hid (wA.ownsRow w.heap.size 33 6 (.slice va (ls.length + 1) vc) (ls.length + 1) (flat svs ls ++ zrow)) := hown'
         have HBA : Hid (Below w.heap.size w wA) := (HP.out.below.alloc (by omega) _).grown hgrow' (by simp; omega) (fun b hb => by simp [Value.ownBlock] at hb; omega)
         clear hown' hgrow'))
    go_ret
    refine ch_more HP.out.len HOA.out ?_ HBA.out hn HS.out rfl
    intro j s m hj hm
    have h1 : Owns wA w.heap.size s m.1 := ownsRow_keep (HP.out.inner j s m hj hm) (fun b hb => HG.out b (HP.out.over j s b hj hb).2 (fun e => by have := (HP.out.over j s b hj hb).1; omega))
    exact h1.slc

set_option maxRecDepth 100000 in
set_option maxHeartbeats 4000000 in
theorem chg_nil (k which : Int) (w : World) :
    Calls Try.prog 10 #[.slice none 0 0, .int .i64 k, .int .i64 which] w fun e w' => ChPost w [] e w' := by
  obtain ⟨i0, hi, hz0, hz1, hz2⟩ := info_parts Try.info33
  go_enter Try.func10, Try.ntmps10
  go_wp2_with fail
  refine (levels_nil w).mono ?_
  rintro e w1 ⟨rfl, rfl⟩
  by_cases hk0 : k < 0
  all_goals
    try (have hk2 : (0 : Int) ≤ k := by omega)
    go_wp2_with (first
      | (at_builtin; refine wpList_append_own _ rfl (.tmp 18) (.tmp 20) 22 rfl w.heap.size 33 i0 (.agg zrow.toArray) 6 72 Try.underlying22 hi hz0 hz1 hz2 rfl (by decide) (.slice none 0 0) 0 [] rfl (World.ownsRow_nil _ _ _ _) ⟨w.heap.size, 0, none⟩ 1 1 zrow rfl rfl (by exact six_at _ 33 _ (by simp)) zrow_one (by unfold maxLen; omega) (by omega) (by simp) ?_; intro v' wA hown' hgrow' _
         have HOA : Hid (wA.ownsRow w.heap.size 33 6 v' (0 + 1) ([] ++ zrow)) := hown'
         have HBA : Hid (Below w.heap.size w wA) := ((Below.refl _ _).alloc (Nat.le_refl _) _).grown hgrow' (by simp) (fun b hb => by simp [Value.ownBlock] at hb)
         clear hown' hgrow'))
    go_ret
    exact ch_more (svs := []) (ls := []) rfl HOA.out (fun j s m hj => by simp at hj) HBA.out (by simp) (fun l hl => by simp at hl) rfl

theorem chg_any (ls : List Lvl) (ao : Option Addr) (c B : Nat) (k which : Int) (w : World) (hr : LvlsAt w B ao ls) (hB : B ≤ w.heap.size) (hc : ao = none → c = 0) (hn : ls.length ≤ 65536) (hs : ∀ l ∈ ls, Small l) :
    Calls Try.prog 10 #[.slice ao ls.length c, .int .i64 k, .int .i64 which] w fun e w' => ChPost w ls e w' := by
  have hs1 : ∀ l ∈ ls, l.1.length ≤ 131072 := fun l hl => (hs l hl).1
  cases ao with
  | none =>
    obtain rfl := hr.nil rfl
    obtain rfl := hc rfl
    exact chg_nil k which w
  | some ad =>
    have hr' := hr.later (Below.refl _ _) (Nat.le_refl _) hB
    by_cases hk : k < 0 ∨ (ls.length : Int) ≤ k
    · exact chg_out ls ad c k which hk w hr' hn hs1
    · obtain ⟨k, rfl⟩ := Int.eq_ofNat_of_zero_le (show 0 ≤ k by omega)
      have hkl : k < ls.length := by omega
      obtain ⟨l, hl⟩ : ∃ l, ls[k]? = some l := ⟨_, List.getElem?_eq_getElem hkl⟩
      by_cases h0 : which = 0
      · subst h0; exact chg_0 ls ad c k hkl w hr' hn hs1
      by_cases h1 : which = 1
      · subst h1; exact chg_1 ls ad c k hkl w hr' hn hs1
      by_cases h2 : which = 2
      · subst h2; exact chg_2 ls ad c k hkl w hr' hn hs1
      by_cases h3 : which = 3
      · subst h3; exact chg_3 ls ad c k hkl (fun l hl => (hs l hl).2) w hr' hn hs1
      by_cases h4 : which = 4
      · subst h4; exact chg_4 ls ad c k hkl w hr' hn hs1
      by_cases h5 : which = 5
      · subst h5; exact chg_5 ls ad c k hkl w hr' hn hs1
      by_cases h6 : which = 6
      · subst h6
        cases hz : l.1 with
        | nil => exact chg_6b ls ad c k l hl hz w hr' hn hs1
        | cons z t => exact chg_6a ls ad c k l z t hl hz w hr' hn hs1
      · exact chg_def ls ad c k which l hl h0 h1 h2 h3 h4 h5 h6 w hr' hn hs1
end Go.Proofs.Qxb6628598a

import Derived.Test.Qxb6628598aChg
import Derived.Test.Qxb6628598aLaw4
import Derived.Deep.RegionHeld3
import Derived.Deep.DrawnRows
import Derived.RegionTactic
import Derived.BigRegion
namespace Go.Proofs.Qxb6628598a
open Go.ChangeShapes Go.WideShapes Go.ChangeAt Go.RowKit
attribute [local go_sem ↓] Go.wp_at_zero Go.wp_at_succ

def zl : Lvl := ([], false, 0, false, ⟨#[]⟩, 0)

theorem ch_drew {w W : World} {ls : List Lvl} {e : Ending} (h : ChPost w ls e W) : ChPost w ls e W.drew := by
  obtain ⟨ms, ao, c, h1, h2, h3, h4⟩ := h
  exact ⟨ms, ao, c, h1, h2.later ((Below.refl _ _).drew) (Nat.le_refl _) (Nat.le_refl _), h3.drew, h4⟩
theorem one_at (W : World) (x : Value) (e : TypeId) (b : Nat) (hb : b = W.heap.size) : ∀ j u, [x][j]? = some u → (W.alloc (.cells #[x] e)).cell? ((⟨b, 0, none⟩ : Addr).add j) = some u := by
  subst hb
  intro j u hu
  match j, hu with
  | 0, hu => simp at hu; subst hu; simp [Addr.add_lit]
  | j + 1, hu => simp at hu
theorem own_form {w : World} {base n : Nat} {v : Value} {xs : List Value} (h : w.ownsRow base 3 1 v (n + 1) xs) : ∃ va vc, v = .slice va (n + 1) vc := by
  rcases h.2 with ⟨_, h0⟩ | ⟨g, cap, cur, hv, _⟩
  · omega
  · exact ⟨_, _, hv⟩
theorem wrap_ne (b : Int) : wrap64 (b + 1) ≠ b := by unfold wrap64; omega
theorem tick_ne (s : ByteArray) : s ++ (⟨#[96]⟩ : ByteArray) ≠ s := by
  intro h
  have := congrArg ByteArray.size h
  rw [ByteArray.size_append] at this
  have e : (⟨#[96]⟩ : ByteArray).size = 1 := rfl
  omega

set_option maxRecDepth 100000 in
set_option maxHeartbeats 4000000 in
theorem chg_0 (ls : List Lvl) (ad : Addr) (c : Nat) (k : Nat) (hk : k < ls.length) (w : World) (hr : LvlsAt w w.heap.size (some ad) ls) (hn : ls.length ≤ 65536) (hs : ∀ l ∈ ls, l.1.length ≤ 131072) :
    Calls Try.prog 10 #[.slice (some ad) ls.length c, .int .i64 k, .int .i64 0] w fun e w' => ChPost w ls e w' := by
  have HS : Hid (∀ l ∈ ls, l.1.length ≤ 131072) := hs
  clear hs
  go_enter Try.func10, Try.ntmps10
  go_wp2_with fail
  refine (levels_some ls ad c w hr hn HS.out).mono ?_
  rintro e w1 ⟨rfl, svs, hP⟩
  have HP : Hid (Part w w1 ls.length ls.length svs ls) := hP
  clear hP hr
  obtain ⟨l, hl⟩ : ∃ l, ls[k]? = some l := ⟨_, List.getElem?_eq_getElem hk⟩
  obtain ⟨sv, hsv, hO, d0, d1, d2, d3, d4, d5⟩ := HP.out.cells hl
  have HL : Hid (ls[k]? = some l) := hl
  have HSV : Hid (svs[k]? = some sv) := hsv
  have df : ∀ o, w1.frozen? ⟨w.heap.size, o, none⟩ = false := fun o => HP.out.row.frozenAt o
  have hk1 : ¬ (k : Int) < 0 := by omega
  have hk2 : ¬ (ls.length : Int) ≤ k := by omega
  have hk3 : (k : Int) < ls.length := by omega
  have hk4 : (0 : Int) ≤ k := by omega
  clear hl hsv hO
  go_wp2_with fail
  go_ret
  exact ch_cell HP.out HSV.out HL.out (.bool !l.2.1) (i := 1) (l' := (l.1, !l.2.1, l.2.2)) (by omega) rfl rfl (fun e => by have := congrArg (fun x : Lvl => x.2.1) e; simp at this) hn HS.out rfl

set_option maxRecDepth 100000 in
set_option maxHeartbeats 4000000 in
theorem chg_1 (ls : List Lvl) (ad : Addr) (c : Nat) (k : Nat) (hk : k < ls.length) (w : World) (hr : LvlsAt w w.heap.size (some ad) ls) (hn : ls.length ≤ 65536) (hs : ∀ l ∈ ls, l.1.length ≤ 131072) :
    Calls Try.prog 10 #[.slice (some ad) ls.length c, .int .i64 k, .int .i64 1] w fun e w' => ChPost w ls e w' := by
  have HS : Hid (∀ l ∈ ls, l.1.length ≤ 131072) := hs
  clear hs
  go_enter Try.func10, Try.ntmps10
  go_wp2_with fail
  refine (levels_some ls ad c w hr hn HS.out).mono ?_
  rintro e w1 ⟨rfl, svs, hP⟩
  have HP : Hid (Part w w1 ls.length ls.length svs ls) := hP
  clear hP hr
  obtain ⟨l, hl⟩ : ∃ l, ls[k]? = some l := ⟨_, List.getElem?_eq_getElem hk⟩
  obtain ⟨sv, hsv, hO, d0, d1, d2, d3, d4, d5⟩ := HP.out.cells hl
  have HL : Hid (ls[k]? = some l) := hl
  have HSV : Hid (svs[k]? = some sv) := hsv
  have df : ∀ o, w1.frozen? ⟨w.heap.size, o, none⟩ = false := fun o => HP.out.row.frozenAt o
  have hk1 : ¬ (k : Int) < 0 := by omega
  have hk2 : ¬ (ls.length : Int) ≤ k := by omega
  have hk3 : (k : Int) < ls.length := by omega
  have hk4 : (0 : Int) ≤ k := by omega
  clear hl hsv hO
  go_wp2_with fail
  go_ret
  exact ch_cell HP.out HSV.out HL.out (.int .i64 (wrap64 (l.2.2.1 + 1))) (i := 2) (l' := (l.1, l.2.1, wrap64 (l.2.2.1 + 1), l.2.2.2)) (by omega) rfl rfl (fun e => wrap_ne l.2.2.1 (congrArg (fun x : Lvl => x.2.2.1) e)) hn HS.out rfl

set_option maxRecDepth 100000 in
set_option maxHeartbeats 4000000 in
theorem chg_2 (ls : List Lvl) (ad : Addr) (c : Nat) (k : Nat) (hk : k < ls.length) (w : World) (hr : LvlsAt w w.heap.size (some ad) ls) (hn : ls.length ≤ 65536) (hs : ∀ l ∈ ls, l.1.length ≤ 131072) :
    Calls Try.prog 10 #[.slice (some ad) ls.length c, .int .i64 k, .int .i64 2] w fun e w' => ChPost w ls e w' := by
  have HS : Hid (∀ l ∈ ls, l.1.length ≤ 131072) := hs
  clear hs
  go_enter Try.func10, Try.ntmps10
  go_wp2_with fail
  refine (levels_some ls ad c w hr hn HS.out).mono ?_
  rintro e w1 ⟨rfl, svs, hP⟩
  have HP : Hid (Part w w1 ls.length ls.length svs ls) := hP
  clear hP hr
  obtain ⟨l, hl⟩ : ∃ l, ls[k]? = some l := ⟨_, List.getElem?_eq_getElem hk⟩
  obtain ⟨sv, hsv, hO, d0, d1, d2, d3, d4, d5⟩ := HP.out.cells hl
  have HL : Hid (ls[k]? = some l) := hl
  have HSV : Hid (svs[k]? = some sv) := hsv
  have df : ∀ o, w1.frozen? ⟨w.heap.size, o, none⟩ = false := fun o => HP.out.row.frozenAt o
  have hk1 : ¬ (k : Int) < 0 := by omega
  have hk2 : ¬ (ls.length : Int) ≤ k := by omega
  have hk3 : (k : Int) < ls.length := by omega
  have hk4 : (0 : Int) ≤ k := by omega
  clear hl hsv hO
  go_wp2_with fail
  go_ret
  exact ch_cell HP.out HSV.out HL.out (.bool !l.2.2.2.1) (i := 3) (l' := (l.1, l.2.1, l.2.2.1, !l.2.2.2.1, l.2.2.2.2)) (by omega) rfl rfl (fun e => by have := congrArg (fun x : Lvl => x.2.2.2.1) e; simp at this) hn HS.out rfl

set_option maxRecDepth 100000 in
set_option maxHeartbeats 4000000 in
theorem chg_3 (ls : List Lvl) (ad : Addr) (c : Nat) (k : Nat) (hk : k < ls.length) (hf : ∀ l ∈ ls, l.2.2.2.2.1.size ≤ 1048576) (w : World) (hr : LvlsAt w w.heap.size (some ad) ls) (hn : ls.length ≤ 65536) (hs : ∀ l ∈ ls, l.1.length ≤ 131072) :
    Calls Try.prog 10 #[.slice (some ad) ls.length c, .int .i64 k, .int .i64 3] w fun e w' => ChPost w ls e w' := by
  have HS : Hid (∀ l ∈ ls, l.1.length ≤ 131072) := hs
  clear hs
  go_enter Try.func10, Try.ntmps10
  go_wp2_with fail
  refine (levels_some ls ad c w hr hn HS.out).mono ?_
  rintro e w1 ⟨rfl, svs, hP⟩
  have HP : Hid (Part w w1 ls.length ls.length svs ls) := hP
  clear hP hr
  obtain ⟨l, hl⟩ : ∃ l, ls[k]? = some l := ⟨_, List.getElem?_eq_getElem hk⟩
  obtain ⟨sv, hsv, hO, d0, d1, d2, d3, d4, d5⟩ := HP.out.cells hl
  have HL : Hid (ls[k]? = some l) := hl
  have HSV : Hid (svs[k]? = some sv) := hsv
  have df : ∀ o, w1.frozen? ⟨w.heap.size, o, none⟩ = false := fun o => HP.out.row.frozenAt o
  have hk1 : ¬ (k : Int) < 0 := by omega
  have hk2 : ¬ (ls.length : Int) ≤ k := by omega
  have hk3 : (k : Int) < ls.length := by omega
  have hk4 : (0 : Int) ≤ k := by omega
  clear hl hsv hO
  have hfe := hf l (List.mem_of_getElem? HL.out)
  have hfe2 : l.2.2.2.2.1.size + 1 ≤ 140737488355328 := by omega
  clear hf
  go_wp2_with fail
  go_ret
  exact ch_cell HP.out HSV.out HL.out (.string (l.2.2.2.2.1 ++ ⟨#[96]⟩)) (i := 4) (l' := (l.1, l.2.1, l.2.2.1, l.2.2.2.1, l.2.2.2.2.1 ++ ⟨#[96]⟩, l.2.2.2.2.2)) (by omega) rfl rfl (fun e => tick_ne l.2.2.2.2.1 (congrArg (fun x : Lvl => x.2.2.2.2.1) e)) hn HS.out rfl

set_option maxRecDepth 100000 in
set_option maxHeartbeats 4000000 in
theorem chg_4 (ls : List Lvl) (ad : Addr) (c : Nat) (k : Nat) (hk : k < ls.length) (w : World) (hr : LvlsAt w w.heap.size (some ad) ls) (hn : ls.length ≤ 65536) (hs : ∀ l ∈ ls, l.1.length ≤ 131072) :
    Calls Try.prog 10 #[.slice (some ad) ls.length c, .int .i64 k, .int .i64 4] w fun e w' => ChPost w ls e w' := by
  have HS : Hid (∀ l ∈ ls, l.1.length ≤ 131072) := hs
  clear hs
  go_enter Try.func10, Try.ntmps10
  go_wp2_with fail
  refine (levels_some ls ad c w hr hn HS.out).mono ?_
  rintro e w1 ⟨rfl, svs, hP⟩
  have HP : Hid (Part w w1 ls.length ls.length svs ls) := hP
  clear hP hr
  obtain ⟨l, hl⟩ : ∃ l, ls[k]? = some l := ⟨_, List.getElem?_eq_getElem hk⟩
  obtain ⟨sv, hsv, hO, d0, d1, d2, d3, d4, d5⟩ := HP.out.cells hl
  have HL : Hid (ls[k]? = some l) := hl
  have HSV : Hid (svs[k]? = some sv) := hsv
  have df : ∀ o, w1.frozen? ⟨w.heap.size, o, none⟩ = false := fun o => HP.out.row.frozenAt o
  have hk1 : ¬ (k : Int) < 0 := by omega
  have hk2 : ¬ (ls.length : Int) ≤ k := by omega
  have hk3 : (k : Int) < ls.length := by omega
  have hk4 : (0 : Int) ≤ k := by omega
  clear hl hsv hO
  go_wp2_with fail
  go_ret
  exact ch_cell HP.out HSV.out HL.out (.int .i64 (wrap64 (l.2.2.2.2.2 + 1))) (i := 5) (l' := (l.1, l.2.1, l.2.2.1, l.2.2.2.1, l.2.2.2.2.1, wrap64 (l.2.2.2.2.2 + 1))) (by omega) rfl rfl (fun e => wrap_ne l.2.2.2.2.2 (congrArg (fun x : Lvl => x.2.2.2.2.2) e)) hn HS.out rfl

set_option maxRecDepth 100000 in
set_option maxHeartbeats 4000000 in
theorem chg_5 (ls : List Lvl) (ad : Addr) (c : Nat) (k : Nat) (hk : k < ls.length) (w : World) (hr : LvlsAt w w.heap.size (some ad) ls) (hn : ls.length ≤ 65536) (hs : ∀ l ∈ ls, l.1.length ≤ 131072) :
    Calls Try.prog 10 #[.slice (some ad) ls.length c, .int .i64 k, .int .i64 5] w fun e w' => ChPost w ls e w' := by
  have HS : Hid (∀ l ∈ ls, l.1.length ≤ 131072) := hs
  clear hs
  go_enter Try.func10, Try.ntmps10
  go_wp2_with fail
  refine (levels_some ls ad c w hr hn HS.out).mono ?_
  rintro e w1 ⟨rfl, svs, hP⟩
  have HP : Hid (Part w w1 ls.length ls.length svs ls) := hP
  clear hP hr
  have hk1 : ¬ (k : Int) < 0 := by omega
  have hk2 : ¬ (ls.length : Int) ≤ k := by omega
  obtain ⟨hsl, hL⟩ := cut_h ls (some ⟨w.heap.size, 0, none⟩) ls.length w1.heap.size k w1 HP.out.lvls (by omega) (Nat.le_refl _)
  have HLv : Hid (LvlsAt w1 w1.heap.size (some ⟨w.heap.size, 0, none⟩) (ls.take k)) := hL
  have HLen : Hid ((ls.take k).length = k) := by show _ = _; rw [List.length_take]; omega
  clear hL
  generalize hT : ls.take k = lt at *
  have HT : Hid (ls.take k = lt) := hT
  clear hT
  go_wp2_with fail
  go_ret
  refine ⟨lt, some ⟨w.heap.size, 0, none⟩, ls.length, rfl, HLv.out, HP.out.below, ?_, by rw [HLen.out]; omega, ?_⟩
  · intro e
    have := HLen.out
    rw [e] at this
    omega
  · intro l hl
    rw [← HT.out] at hl
    have := HS.out l (List.mem_of_mem_take hl)
    omega

set_option maxRecDepth 100000 in
set_option maxHeartbeats 4000000 in
theorem chg_6a (ls : List Lvl) (ad : Addr) (c : Nat) (k : Nat) (l : Lvl) (z : Int) (t : List Int) (hl : ls[k]? = some l) (hlz : l.1 = z :: t) (w : World) (hr : LvlsAt w w.heap.size (some ad) ls) (hn : ls.length ≤ 65536) (hs : ∀ l ∈ ls, l.1.length ≤ 131072) :
    Calls Try.prog 10 #[.slice (some ad) ls.length c, .int .i64 k, .int .i64 6] w fun e w' => ChPost w ls e w' := by
  have hk : k < ls.length := (List.getElem?_eq_some_iff.1 hl).1
  have HS : Hid (∀ l ∈ ls, l.1.length ≤ 131072) := hs
  clear hs
  go_enter Try.func10, Try.ntmps10
  go_wp2_with fail
  refine (levels_some ls ad c w hr hn HS.out).mono ?_
  rintro e w1 ⟨rfl, svs, hP⟩
  have HP : Hid (Part w w1 ls.length ls.length svs ls) := hP
  clear hP hr
  obtain ⟨sv, hsv, hO, d0, _⟩ := HP.out.cells hl
  obtain ⟨b, cap, rfl⟩ : ∃ b cap, sv = .slice (some ⟨b, 0, none⟩) l.1.length cap := by
    rcases hO.2 with ⟨_, h0⟩ | ⟨b, cap, cur, hv, _⟩
    · rw [hlz] at h0; simp at h0
    · exact ⟨b, cap, hv⟩
  have i0 : w1.cell? ⟨b, 0, none⟩ = some (.int .i64 z) := by
    have := World.ownsRow.cellAt hO 0 (by rw [hlz]; simp)
    rw [this, hlz]; rfl
  have i1 : w1.frozen? ⟨b, 0, none⟩ = false := World.ownsRow.frozenAt hO 0
  have HL : Hid (ls[k]? = some l) := hl
  have HLZ : Hid (l.1 = z :: t) := hlz
  have HSV : Hid (svs[k]? = some (.slice (some ⟨b, 0, none⟩) l.1.length cap)) := hsv
  have hk1 : ¬ (k : Int) < 0 := by omega
  have hk2 : ¬ (ls.length : Int) ≤ k := by omega
  have hk3 : (k : Int) < ls.length := by omega
  have hk4 : (0 : Int) ≤ k := by omega
  have hl0 : (0 : Int) < l.1.length := by rw [hlz]; simp
  have hov : w.heap.size < b := (HP.out.over k _ b hsv rfl).1
  clear hl hlz hsv hO
  go_wp2_with fail
  go_region
  go_wp2_with fail
  go_ret
  exact ch_drew (ch_inner HP.out HSV.out HL.out HLZ.out (wrap_ne z) hn HS.out rfl)

set_option maxRecDepth 100000 in
set_option maxHeartbeats 4000000 in
theorem chg_6b (ls : List Lvl) (ad : Addr) (c : Nat) (k : Nat) (l : Lvl) (hl : ls[k]? = some l) (hlz : l.1 = []) (w : World) (hr : LvlsAt w w.heap.size (some ad) ls) (hn : ls.length ≤ 65536) (hs : ∀ l ∈ ls, l.1.length ≤ 131072) :
    Calls Try.prog 10 #[.slice (some ad) ls.length c, .int .i64 k, .int .i64 6] w fun e w' => ChPost w ls e w' := by
  have hk : k < ls.length := (List.getElem?_eq_some_iff.1 hl).1
  obtain ⟨i0, hi, hz0, hz1, hz2⟩ := info_parts Try.info3
  have HS : Hid (∀ l ∈ ls, l.1.length ≤ 131072) := hs
  clear hs
  go_enter Try.func10, Try.ntmps10
  go_wp2_with fail
  refine (levels_some ls ad c w hr hn HS.out).mono ?_
  rintro e w1 ⟨rfl, svs, hP⟩
  have HP : Hid (Part w w1 ls.length ls.length svs ls) := hP
  clear hP hr
  obtain ⟨sv, hsv, hO, d0, _⟩ := HP.out.cells hl
  have hB1 := HP.out.below
  have hzz := (HP.out.row.lt w.heap.size rfl).2
  have hO' : w1.ownsRow (w.heap.size + 1) 3 1 sv l.1.length (cellsOf l.1) := ownsRow_up hO (fun b hb => (HP.out.over k sv b hsv hb).1)
  have hgb : sv.ownBlock ≠ some w.heap.size := fun e => by have := (HP.out.over k sv _ hsv e).1; omega
  have hll : l.1.length ≤ 131072 := HS.out l (List.mem_of_getElem? hl)
  obtain ⟨sa, sc, rfl⟩ := Owns.form hO
  have HO : Hid (w1.ownsRow (w.heap.size + 1) 3 1 (.slice sa l.1.length sc) l.1.length (cellsOf l.1)) := hO'
  have HGB : Hid ((Value.slice sa l.1.length sc).ownBlock ≠ some w.heap.size) := hgb
  have HB1 : Hid (Below w.heap.size w w1) := hB1
  have df : ∀ o, w1.frozen? ⟨w.heap.size, o, none⟩ = false := fun o => HP.out.row.frozenAt o
  have HDF : Hid (∀ o, w1.frozen? ⟨w.heap.size, o, none⟩ = false) := df
  have HD0 : Hid (w1.cell? ⟨w.heap.size, k * 6, none⟩ = some (.slice sa l.1.length sc)) := d0
  have HL : Hid (ls[k]? = some l) := hl
  have HSV : Hid (svs[k]? = some (.slice sa l.1.length sc)) := hsv
  have hk1 : ¬ (k : Int) < 0 := by omega
  have hk2 : ¬ (ls.length : Int) ≤ k := by omega
  have hk3 : (k : Int) < ls.length := by omega
  have hk4 : (0 : Int) ≤ k := by omega
  have hl0 : ¬ (0 : Int) < l.1.length := by rw [hlz]; simp
  clear hlz
  clear hsv hO hO' hB1 hgb hl
  go_wp2_with (first
    | (at_builtin; refine wpList_append_own _ rfl (.tmp 128) (.tmp 129) 31 rfl (w.heap.size + 1) 3 i0 (.int .i64 0) 1 8 Try.underlying31 hi hz0 hz1 hz2 rfl (by decide) (.slice sa l.1.length sc) l.1.length (cellsOf l.1) rfl (HO.out.alloc _) ⟨w1.heap.size, 0, none⟩ 1 1 [.int .i64 0] rfl rfl (by exact one_at _ _ 3 _ (by simp)) (fun x hx => by simp at hx; subst hx; rfl) (by unfold maxLen; omega) (by omega) (by simp; omega) ?_; intro v' wA hown' hgrow' _
       obtain ⟨va, vc, rfl⟩ := own_form hown'
       have hkeep : ∀ b, b < w1.heap.size → (Value.slice sa l.1.length sc).ownBlock ≠ some b → wA.heap[b]? = w1.heap[b]? := fun b hb hne => (hgrow'.block b (by simp; omega) (fun e => hne e.symm)).trans (Below.heap_alloc _ _ _ hb)
       have e0 : wA.cell? ⟨w.heap.size, k * 6, none⟩ = some (.slice sa l.1.length sc) := (World.cell?_of_block (w := w1) (hkeep w.heap.size hzz HGB.out)).trans HD0.out
       have e1 : wA.frozen? ⟨w.heap.size, k * 6, none⟩ = false := (World.frozen?_of_block (w := w1) (hkeep w.heap.size hzz HGB.out)).trans (HDF.out _)
       have HK : Hid (∀ b, b < w1.heap.size → (Value.slice sa l.1.length sc).ownBlock ≠ some b → wA.heap[b]? = w1.heap[b]?) := hkeep
       have HOA : Hid (wA.ownsRow (w.heap.size + 1) 3 1 (.slice va (l.1.length + 1) vc) (l.1.length + 1) (cellsOf l.1 ++ [.int .i64 0])) := hown'
       have HBA : Hid (Below w.heap.size w wA) := (HB1.out.alloc (by omega) _).grown hgrow' (by simp; omega) (fun b hb => by have := (HO.out.lt b hb).1; omega)
       clear hown' hgrow' hkeep))
  have hOA : Owns wA (w.heap.size + 1) (.slice va (l.1.length + 1) vc) (l.1 ++ [0]) := by
    unfold Owns
    rw [cellsOf_append, List.length_append]
    exact HOA.out
  have hfin := ch_items HP.out HSV.out HL.out hOA HK.out HBA.out (fun e => by have := congrArg List.length e; simp at this) (by simp; omega) hn HS.out (e := .returned (.slice (some ⟨w.heap.size, 0, none⟩) ls.length ls.length)) rfl
  have HFIN : Hid _ := hfin
  clear hOA hfin
  go_ret
  exact HFIN.out

set_option maxRecDepth 100000 in
set_option maxHeartbeats 4000000 in
theorem chg_def (ls : List Lvl) (ad : Addr) (c : Nat) (k : Nat) (which : Int) (l : Lvl) (hl : ls[k]? = some l) (h0 : which ≠ 0) (h1 : which ≠ 1) (h2 : which ≠ 2) (h3 : which ≠ 3) (h4 : which ≠ 4) (h5 : which ≠ 5) (h6 : which ≠ 6) (w : World) (hr : LvlsAt w w.heap.size (some ad) ls) (hn : ls.length ≤ 65536) (hs : ∀ l ∈ ls, l.1.length ≤ 131072) :
    Calls Try.prog 10 #[.slice (some ad) ls.length c, .int .i64 k, .int .i64 which] w fun e w' => ChPost w ls e w' := by
  have hk : k < ls.length := (List.getElem?_eq_some_iff.1 hl).1
  obtain ⟨i0, hi, hz0, hz1, hz2⟩ := info_parts Try.info3
  have HS : Hid (∀ l ∈ ls, l.1.length ≤ 131072) := hs
  clear hs
  go_enter Try.func10, Try.ntmps10
  go_wp2_with fail
  refine (levels_some ls ad c w hr hn HS.out).mono ?_
  rintro e w1 ⟨rfl, svs, hP⟩
  have HP : Hid (Part w w1 ls.length ls.length svs ls) := hP
  clear hP hr
  obtain ⟨sv, hsv, hO, d0, _⟩ := HP.out.cells hl
  have hB1 := HP.out.below
  have hzz := (HP.out.row.lt w.heap.size rfl).2
  have hO' : w1.ownsRow (w.heap.size + 1) 3 1 sv l.1.length (cellsOf l.1) := ownsRow_up hO (fun b hb => (HP.out.over k sv b hsv hb).1)
  have hgb : sv.ownBlock ≠ some w.heap.size := fun e => by have := (HP.out.over k sv _ hsv e).1; omega
  have hll : l.1.length ≤ 131072 := HS.out l (List.mem_of_getElem? hl)
  obtain ⟨sa, sc, rfl⟩ := Owns.form hO
  have HO : Hid (w1.ownsRow (w.heap.size + 1) 3 1 (.slice sa l.1.length sc) l.1.length (cellsOf l.1)) := hO'
  have HGB : Hid ((Value.slice sa l.1.length sc).ownBlock ≠ some w.heap.size) := hgb
  have HB1 : Hid (Below w.heap.size w w1) := hB1
  have df : ∀ o, w1.frozen? ⟨w.heap.size, o, none⟩ = false := fun o => HP.out.row.frozenAt o
  have HDF : Hid (∀ o, w1.frozen? ⟨w.heap.size, o, none⟩ = false) := df
  have HD0 : Hid (w1.cell? ⟨w.heap.size, k * 6, none⟩ = some (.slice sa l.1.length sc)) := d0
  have HL : Hid (ls[k]? = some l) := hl
  have HSV : Hid (svs[k]? = some (.slice sa l.1.length sc)) := hsv
  have hk1 : ¬ (k : Int) < 0 := by omega
  have hk2 : ¬ (ls.length : Int) ≤ k := by omega
  have hk3 : (k : Int) < ls.length := by omega
  have hk4 : (0 : Int) ≤ k := by omega
  have n0 : (which == 0) = false := by simpa using h0
  have n1 : (which == 1) = false := by simpa using h1
  have n2 : (which == 2) = false := by simpa using h2
  have n3 : (which == 3) = false := by simpa using h3
  have n4 : (which == 4) = false := by simpa using h4
  have n5 : (which == 5) = false := by simpa using h5
  have n6 : (which == 6) = false := by simpa using h6
  clear h0 h1 h2 h3 h4 h5 h6
  clear hsv hO hO' hB1 hgb hl
  go_wp2_with (first
    | (at_builtin; refine wpList_append_own _ rfl (.tmp 29) (.tmp 30) 31 rfl (w.heap.size + 1) 3 i0 (.int .i64 0) 1 8 Try.underlying31 hi hz0 hz1 hz2 rfl (by decide) (.slice sa l.1.length sc) l.1.length (cellsOf l.1) rfl (HO.out.alloc _) ⟨w1.heap.size, 0, none⟩ 1 1 [.int .i64 0] rfl rfl (by exact one_at _ _ 3 _ (by simp)) (fun x hx => by simp at hx; subst hx; rfl) (by unfold maxLen; omega) (by omega) (by simp; omega) ?_; intro v' wA hown' hgrow' _
       obtain ⟨va, vc, rfl⟩ := own_form hown'
       have hkeep : ∀ b, b < w1.heap.size → (Value.slice sa l.1.length sc).ownBlock ≠ some b → wA.heap[b]? = w1.heap[b]? := fun b hb hne => (hgrow'.block b (by simp; omega) (fun e => hne e.symm)).trans (Below.heap_alloc _ _ _ hb)
       have e0 : wA.cell? ⟨w.heap.size, k * 6, none⟩ = some (.slice sa l.1.length sc) := (World.cell?_of_block (w := w1) (hkeep w.heap.size hzz HGB.out)).trans HD0.out
       have e1 : wA.frozen? ⟨w.heap.size, k * 6, none⟩ = false := (World.frozen?_of_block (w := w1) (hkeep w.heap.size hzz HGB.out)).trans (HDF.out _)
       have HK : Hid (∀ b, b < w1.heap.size → (Value.slice sa l.1.length sc).ownBlock ≠ some b → wA.heap[b]? = w1.heap[b]?) := hkeep
       have HOA : Hid (wA.ownsRow (w.heap.size + 1) 3 1 (.slice va (l.1.length + 1) vc) (l.1.length + 1) (cellsOf l.1 ++ [.int .i64 0])) := hown'
       have HBA : Hid (Below w.heap.size w wA) := (HB1.out.alloc (by omega) _).grown hgrow' (by simp; omega) (fun b hb => by have := (HO.out.lt b hb).1; omega)
       clear hown' hgrow' hkeep))
  have hOA : Owns wA (w.heap.size + 1) (.slice va (l.1.length + 1) vc) (l.1 ++ [0]) := by
    unfold Owns
    rw [cellsOf_append, List.length_append]
    exact HOA.out
  have hfin := ch_items HP.out HSV.out HL.out hOA HK.out HBA.out (fun e => by have := congrArg List.length e; simp at this) (by simp; omega) hn HS.out (e := .returned (.slice (some ⟨w.heap.size, 0, none⟩) ls.length ls.length)) rfl
  have HFIN : Hid _ := hfin
  clear hOA hfin
  go_ret
  exact HFIN.out

end Go.Proofs.Qxb6628598a

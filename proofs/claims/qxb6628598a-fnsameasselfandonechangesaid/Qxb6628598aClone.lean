import Derived.Test.Qxb6628598aBuild
namespace Go.Proofs.Qxb6628598a
open Go.ChangeShapes Go.WideShapes Go.ChangeAt Go.RowKit
attribute [local go_sem ↓] Go.wp_at_zero Go.wp_at_succ

def zrow : List Value := [.slice none 0 0, .bool false, .int .i64 0, .bool false, .string ⟨#[]⟩, .int .i64 0]
theorem Try.info33 : (Try.prog.info? 33).map (fun i => (i.zero, i.size, i.bytes)) = some (some (.agg zrow.toArray), 6, 72) := by kernel_rfl
theorem Try.cells33 : Try.prog.cellsOf 33 = 6 := by kernel_rfl

def zeros (n : Nat) : List Value := (List.replicate n zrow).flatten

theorem made6 (n : Nat) : (madeCells zrow.toArray (n * 6)).toList = zeros n := by
  induction n with
  | zero => simp [madeCells, zeros]
  | succ n ih =>
    have e1 : (madeCells zrow.toArray ((n + 1) * 6)).toList = (madeCells zrow.toArray (n * 6)).toList ++ zrow := by
      unfold madeCells
      simp only [Array.toList_map, Array.toList_range]
      rw [show (n + 1) * 6 = n * 6 + 6 from by omega, List.range_add, List.map_append]
      congr 1
      simp only [List.map_map, List.range_succ, List.range_zero]
      simp [zrow, Nat.mul_comm n 6]
    rw [e1, ih]
    unfold zeros
    rw [List.replicate_succ', List.flatten_append]
    simp

def lrow (sv : Value) (l : Lvl) : List Value := [sv, .bool l.2.1, .int .i64 l.2.2.1, .bool l.2.2.2.1, .string l.2.2.2.2.1, .int .i64 l.2.2.2.2.2]
def flat : List Value → List Lvl → List Value
  | sv :: svs, l :: ls => lrow sv l ++ flat svs ls
  | _, _ => []

theorem flat_snoc : ∀ (svs : List Value) (ls : List Lvl) (sv : Value) (l : Lvl), svs.length = ls.length → flat (svs ++ [sv]) (ls ++ [l]) = flat svs ls ++ lrow sv l
  | [], [], _, _, _ => by simp [flat]
  | s :: svs, m :: ls, sv, l, h => by
    simp only [List.cons_append, flat]
    rw [flat_snoc svs ls sv l (by simpa using h), List.append_assoc]
  | [], _ :: _, _, _, h => by simp at h
  | _ :: _, [], _, _, h => by simp at h
theorem flat_length : ∀ (svs : List Value) (ls : List Lvl), svs.length = ls.length → (flat svs ls).length = ls.length * 6
  | [], [], _ => rfl
  | s :: svs, m :: ls, h => by
    simp only [flat, List.length_append, List.length_cons]
    rw [flat_length svs ls (by simpa using h)]
    simp [lrow]; omega
  | [], _ :: _, h => by simp at h
  | _ :: _, [], h => by simp at h

theorem Owns.form {w : World} {base : Nat} {v : Value} {xs : List Int} (h : Owns w base v xs) : ∃ ao cap, v = .slice ao xs.length cap := by
  obtain ⟨ao, cap, hv, _⟩ := h.slc
  exact ⟨ao, cap, hv⟩

/-- what the loop of fnCloneLevels holds after k rounds -/
structure Part (w wr : World) (n k : Nat) (svs : List Value) (ls : List Lvl) : Prop where
  row : wr.ownsRow w.heap.size 33 6 (.slice (some ⟨w.heap.size, 0, none⟩) n n) n (flat svs (ls.take k) ++ zeros (n - k))
  len : svs.length = k
  inner : ∀ (j : Nat) (sv : Value) (l : Lvl), svs[j]? = some sv → ls[j]? = some l → Owns wr w.heap.size sv l.1
  over : ∀ (j : Nat) (sv : Value) (b : Nat), svs[j]? = some sv → sv.ownBlock = some b → w.heap.size < b ∧ b < wr.heap.size
  apart : ∀ (i j : Nat) (si sj : Value) (b : Nat), i ≠ j → svs[i]? = some si → svs[j]? = some sj → si.ownBlock = some b → sj.ownBlock ≠ some b
  below : Below w.heap.size w wr

theorem zeros_succ (m : Nat) : zeros (m + 1) = zrow ++ zeros m := by
  unfold zeros; rw [List.replicate_succ, List.flatten_cons]

theorem Part.zcells {w wr : World} {n k : Nat} {svs : List Value} {ls : List Lvl} (h : Part w wr n k svs ls) (hk : k < n) (hl : k ≤ ls.length) :
    wr.cell? ⟨w.heap.size, k * 6, none⟩ = some (.slice none 0 0) ∧ wr.cell? ⟨w.heap.size, k * 6 + 1, none⟩ = some (.bool false) ∧ wr.cell? ⟨w.heap.size, k * 6 + 2, none⟩ = some (.int .i64 0) ∧ wr.cell? ⟨w.heap.size, k * 6 + 3, none⟩ = some (.bool false) ∧ wr.cell? ⟨w.heap.size, k * 6 + 4, none⟩ = some (.string ⟨#[]⟩) ∧ wr.cell? ⟨w.heap.size, k * 6 + 5, none⟩ = some (.int .i64 0) := by
  have hfl : (flat svs (ls.take k)).length = k * 6 := by
    rw [flat_length _ _ (by rw [h.len, List.length_take]; omega), List.length_take]; congr 1; omega
  have key : ∀ i, i < 6 → wr.cell? ⟨w.heap.size, k * 6 + i, none⟩ = zrow[i]? := by
    intro i hi
    rw [h.row.cellAt (k * 6 + i) (by omega), List.getElem?_append_right (by omega), hfl, Nat.add_sub_cancel_left, show n - k = (n - (k + 1)) + 1 from by omega, zeros_succ]
    exact List.getElem?_append_left (by simpa [zrow] using hi)
  exact ⟨key 0 (by omega), key 1 (by omega), key 2 (by omega), key 3 (by omega), key 4 (by omega), key 5 (by omega)⟩

/-- six cells of one level, stored one behind the other -/
def six (W : World) (g o : Nat) (sv : Value) (l : Lvl) : World :=
  (((((W.setCell ⟨g, o, none⟩ sv).setCell ⟨g, o + 1, none⟩ (.bool l.2.1)).setCell ⟨g, o + 2, none⟩ (.int .i64 l.2.2.1)).setCell ⟨g, o + 3, none⟩ (.bool l.2.2.2.1)).setCell ⟨g, o + 4, none⟩ (.string l.2.2.2.2.1)).setCell ⟨g, o + 5, none⟩ (.int .i64 l.2.2.2.2.2)

theorem ownsRow_below {w w' : World} {base : Nat} {e : TypeId} {size : Nat} {v : Value} {n : Nat} {xs : List Value} (h : w.ownsRow base e size v n xs) (hb : Below w.heap.size w w') : w'.ownsRow base e size v n xs :=
  h.kept (row := none) ⟨hb.os, hb.tape, hb.output, hb.size, fun k hk _ => hb.block k hk⟩ (by cases v.ownBlock <;> simp)
theorem ownsRow_base {w : World} {base base' : Nat} {e : TypeId} {size : Nat} {v : Value} {n : Nat} {xs : List Value} (h : w.ownsRow base e size v n xs) (hb : base' ≤ base) : w.ownsRow base' e size v n xs := by
  refine ⟨h.1, ?_⟩
  rcases h.2 with h2 | ⟨g, cap, cur, hv, hg, r⟩
  · exact .inl h2
  · exact .inr ⟨g, cap, cur, hv, by omega, r⟩
theorem ownsRow_other {w : World} {base : Nat} {e : TypeId} {size : Nat} {v : Value} {n : Nat} {xs : List Value} (h : w.ownsRow base e size v n xs) {a : Addr} (ha : v.ownBlock ≠ some a.block) (u : Value) : (w.setCell a u).ownsRow base e size v n xs := by
  refine ⟨h.1, ?_⟩
  rcases h.2 with h2 | ⟨g, cap, cur, rfl, hg, hh, r⟩
  · exact .inl h2
  · refine .inr ⟨g, cap, cur, rfl, hg, ?_, r⟩
    rw [Below.heap_setCell _ _ _ _ (fun e => ha (by rw [← e]; rfl))]
    exact hh
theorem six_other {W : World} {base : Nat} {e : TypeId} {size : Nat} {v : Value} {n : Nat} {xs : List Value} (h : W.ownsRow base e size v n xs) {g : Nat} (ha : v.ownBlock ≠ some g) (o : Nat) (sv : Value) (l : Lvl) : (six W g o sv l).ownsRow base e size v n xs :=
  ownsRow_other (ownsRow_other (ownsRow_other (ownsRow_other (ownsRow_other (ownsRow_other h ha _) ha _) ha _) ha _) ha _) ha _
theorem six_size (W : World) (g o : Nat) (sv : Value) (l : Lvl) : (six W g o sv l).heap.size = W.heap.size := by simp [six, World.setCell]
theorem six_below {W : World} {B g : Nat} (hg : B ≤ g) (o : Nat) (sv : Value) (l : Lvl) : Below B W (six W g o sv l) :=
  ((((((Below.refl B W).setCell hg _).setCell hg _).setCell hg _).setCell hg _).setCell hg _).setCell hg _

theorem set_app {α : Type} (A L : List α) (k j : Nat) (v : α) (hk : A.length = k) : (A ++ L).set (k + j) v = A ++ L.set j v := by
  rw [List.set_append_right _ _ (by omega), show k + j - A.length = j from by omega]
theorem set6 (A Z : List Value) (k : Nat) (sv : Value) (l : Lvl) (hk : A.length = k) :
    ((((((A ++ (zrow ++ Z)).set k sv).set (k + 1) (.bool l.2.1)).set (k + 2) (.int .i64 l.2.2.1)).set (k + 3) (.bool l.2.2.2.1)).set (k + 4) (.string l.2.2.2.2.1)).set (k + 5) (.int .i64 l.2.2.2.2.2) = A ++ (lrow sv l ++ Z) := by
  have e0 := set_app A (zrow ++ Z) k 0 sv hk
  rw [Nat.add_zero] at e0
  rw [e0, set_app A _ k 1 _ hk, set_app A _ k 2 _ hk, set_app A _ k 3 _ hk, set_app A _ k 4 _ hk, set_app A _ k 5 _ hk]
  rfl
theorem six_row {W : World} {base g n cap : Nat} {A Z : List Value} {k : Nat} (h : W.ownsRow base 33 6 (.slice (some ⟨g, 0, none⟩) n cap) n (A ++ (zrow ++ Z))) (hk : A.length = k) (sv : Value) (l : Lvl) :
    (six W g k sv l).ownsRow base 33 6 (.slice (some ⟨g, 0, none⟩) n cap) n (A ++ (lrow sv l ++ Z)) := by
  have := (((((((h.stored k sv).1).stored (k + 1) (.bool l.2.1)).1.stored (k + 2) (.int .i64 l.2.2.1)).1.stored (k + 3) (.bool l.2.2.2.1)).1.stored (k + 4) (.string l.2.2.2.2.1)).1.stored (k + 5) (.int .i64 l.2.2.2.2.2)).1
  rw [set6 A Z k sv l hk] at this
  exact this

theorem part_step {w wr w1 : World} {n k : Nat} {svs : List Value} {ls : List Lvl} {l : Lvl} {ao : Option Addr} {cp : Nat} (hP : Part w wr n k svs ls) (hk : k < n) (hl : ls[k]? = some l)
    (hzr : w.heap.size < wr.heap.size) (hB : Below wr.heap.size wr w1) (hO : Owns w1 wr.heap.size (.slice ao l.1.length cp) l.1) :
    Part w (six w1 w.heap.size (k * 6) (.slice ao l.1.length cp) l) n (k + 1) (svs ++ [.slice ao l.1.length cp]) ls := by
  have hkl : k < ls.length := (List.getElem?_eq_some_iff.1 hl).1
  have hfl : (flat svs (ls.take k)).length = k * 6 := by
    rw [flat_length _ _ (by rw [hP.len, List.length_take]; omega), List.length_take]; congr 1; omega
  have hz1 := hB.size
  have hlt := hO.lt
  have hself : ∀ j sv, svs[j]? = some sv → j < k := fun j sv h => by have := (List.getElem?_eq_some_iff.1 h).1; rw [hP.len] at this; exact this
  have split : ∀ j sv, (svs ++ [.slice ao l.1.length cp])[j]? = some sv → (j < k ∧ svs[j]? = some sv) ∨ (j = k ∧ sv = .slice ao l.1.length cp) := by
    intro j sv h
    by_cases hj : j < k
    · rw [List.getElem?_append_left (by rw [hP.len]; exact hj)] at h
      exact .inl ⟨hj, h⟩
    · rw [List.getElem?_append_right (by rw [hP.len]; omega), hP.len] at h
      have hj0 : j - k = 0 := by
        have := (List.getElem?_eq_some_iff.1 h).1
        simp at this; omega
      rw [hj0] at h
      simp at h
      exact .inr ⟨by omega, h.symm⟩
  refine ⟨?_, by simp [hP.len], ?_, ?_, ?_, ?_⟩
  · have h0 := ownsRow_below hP.row hB
    rw [show n - k = (n - (k + 1)) + 1 from by omega, zeros_succ] at h0
    have h1 := six_row h0 hfl (.slice ao l.1.length cp) l
    rw [show ls.take (k + 1) = ls.take k ++ [l] from by rw [List.take_add_one, hl]; rfl, flat_snoc _ _ _ _ (by rw [hP.len, List.length_take]; omega), List.append_assoc]
    exact h1
  · intro j sv m hj hm
    rcases split j sv hj with ⟨hjk, hj'⟩ | ⟨rfl, rfl⟩
    · refine six_other (ownsRow_below (hP.inner j sv m hj' hm) hB) (fun e => ?_) _ _ _
      have := (hP.over j sv _ hj' e).1
      omega
    · rw [hl] at hm
      obtain rfl := Option.some.inj hm
      refine six_other (ownsRow_base hO (by omega)) (fun e => ?_) _ _ _
      have := (hlt _ e).1
      omega
  · intro j sv b hj hb
    rw [six_size]
    rcases split j sv hj with ⟨hjk, hj'⟩ | ⟨rfl, rfl⟩
    · have := hP.over j sv b hj' hb
      omega
    · have := hlt b hb
      omega
  · intro i j si sj b hij hi hj hb
    rcases split i si hi with ⟨hik, hi'⟩ | ⟨rfl, rfl⟩
    · rcases split j sj hj with ⟨hjk, hj'⟩ | ⟨rfl, rfl⟩
      · exact hP.apart i j si sj b hij hi' hj' hb
      · intro e
        have h1 := hP.over i si b hi' hb
        have h2 := hlt b e
        omega
    · rcases split j sj hj with ⟨hjk, hj'⟩ | ⟨rfl, rfl⟩
      · intro e
        have h1 := hP.over j sj b hj' e
        have h2 := hlt b hb
        omega
      · exact absurd rfl hij
  · exact (hP.below.trans (hB.mono (by omega))).trans (six_below (Nat.le_refl _) _ _ _)

set_option maxRecDepth 100000 in
set_option maxHeartbeats 4000000 in
theorem levels_some (ls : List Lvl) (ad : Addr) (c : Nat) (w : World) (hr : LvlsAt w w.heap.size (some ad) ls) (hn : ls.length ≤ 65536) (hs : ∀ l ∈ ls, l.1.length ≤ 131072) :
    Calls Try.prog 7 #[.slice (some ad) ls.length c] w fun e w' => e = .returned (.slice (some ⟨w.heap.size, 0, none⟩) ls.length ls.length) ∧ ∃ svs, Part w w' ls.length ls.length svs ls := by
  obtain ⟨i0, hi, hz0, hz1, hz2⟩ := info_parts Try.info33
  have he := fun wx : World => Lib.run_eql_slice_nil (P := Try.prog) wx 22 33 (some ad) ls.length c 0 0 Try.underlying22
  have H1 : Hid (LvlsAt w w.heap.size (some ad) ls) := hr
  have HS : Hid (∀ l ∈ ls, l.1.length ≤ 131072) := hs
  clear hr hs
  go_enter Try.func7, Try.ntmps7
  go_wp2_with (at_make; refine wpList_make_full _ rfl _ _ 22 rfl w.heap.size 33 i0 (.agg zrow.toArray) 6 Try.underlying22 hi hz0 hz1 _ _ _ _ ls.length rfl rfl (by first | rfl | omega) (by first | rfl | omega) (by rw [hz2]; omega) (by unfold maxLen; omega) (Nat.le_refl _) ?_; intro w1 hown hgrow)
  have HP : Hid (Part w w1 ls.length 0 [] ls) := by
    refine ⟨?_, rfl, fun j sv l h => by simp at h, fun j sv b h => by simp at h, fun i j si sj b _ h => by simp at h, (Below.refl _ _).grown hgrow (Nat.le_refl _) (fun k hk => by cases hk)⟩
    have := made6 ls.length
    rw [show flat [] (ls.take 0) ++ zeros (ls.length - 0) = zeros ls.length from by simp [flat], ← this]
    exact hown
  clear hown hgrow he
  go_loopw [4] (fun i wr => ∃ (k : Nat) (svs : List Value), k ≤ ls.length ∧ i = .int .i64 k ∧ Hid (Part w wr ls.length k svs ls)) (fun i _ => ls.length - (intOf i).toNat)
  case atStart => exact ⟨0, [], Nat.zero_le _, rfl, HP⟩
  case round =>
    obtain ⟨k, svs, hk, rfl, hP⟩ := hrel
    clear HP
    by_cases hlt : k < ls.length
    · have hlt' : (k : Int) < ls.length := by omega
      have hlt0 : (0 : Int) ≤ k := by omega
      obtain ⟨l, hl⟩ : ∃ l, ls[k]? = some l := ⟨_, List.getElem?_eq_getElem hlt⟩
      have hbel := hP.out.below
      rcases (H1.out.later hbel (Nat.le_refl _) (Nat.le_refl _)) with h | ⟨g, off, hg0, hg, hlv⟩
      · rw [h] at hlt; simp at hlt
      obtain rfl := Option.some.inj hg0
      obtain ⟨sv, hsv, c0, c1, c2, c3, c4, c5⟩ := hlv k l hl
      have HSV : Hid (SlcAt wr w.heap.size sv l.1) := hsv
      have HLL : Hid (l.1.length ≤ 131072) := HS.out l (List.mem_of_getElem? hl)
      have hzr : w.heap.size < wr.heap.size := (hP.out.row.lt w.heap.size rfl).2
      have HD : Hid (∀ wx, Below wr.heap.size wr wx → wx.cell? ⟨w.heap.size, k * 6, none⟩ = some (.slice none 0 0) ∧ wx.cell? ⟨w.heap.size, k * 6 + 1, none⟩ = some (.bool false) ∧ wx.cell? ⟨w.heap.size, k * 6 + 2, none⟩ = some (.int .i64 0) ∧ wx.cell? ⟨w.heap.size, k * 6 + 3, none⟩ = some (.bool false) ∧ wx.cell? ⟨w.heap.size, k * 6 + 4, none⟩ = some (.string ⟨#[]⟩) ∧ wx.cell? ⟨w.heap.size, k * 6 + 5, none⟩ = some (.int .i64 0)) := fun wx hwx => by
        have e : ∀ o, wx.cell? ⟨w.heap.size, o, none⟩ = wr.cell? ⟨w.heap.size, o, none⟩ := fun o => hwx.cell (show w.heap.size < _ from hzr)
        simp only [e]
        exact hP.out.zcells hlt (by omega)
      have HF : Hid (∀ wx, Below wr.heap.size wr wx → ∀ o, wx.frozen? ⟨w.heap.size, o, none⟩ = false) := fun wx hwx o => by
        rw [hwx.frozen (show w.heap.size < _ from hzr)]; exact hP.out.row.frozenAt o
      have KS : Hid (∀ (W : World) (o : Nat) (v0 v1 v2 v3 v4 v5 : Value), ((((((W.setCell ⟨w.heap.size, k * 6, none⟩ v0).setCell ⟨w.heap.size, k * 6 + 1, none⟩ v1).setCell ⟨w.heap.size, k * 6 + 2, none⟩ v2).setCell ⟨w.heap.size, k * 6 + 3, none⟩ v3).setCell ⟨w.heap.size, k * 6 + 4, none⟩ v4).setCell ⟨w.heap.size, k * 6 + 5, none⟩ v5).cell? ⟨g, o, none⟩ = W.cell? ⟨g, o, none⟩) := fun W o v0 v1 v2 v3 v4 v5 =>
        (((((((Below.refl w.heap.size W).setCell (Nat.le_refl _) _).setCell (Nat.le_refl _) _).setCell (Nat.le_refl _) _).setCell (Nat.le_refl _) _).setCell (Nat.le_refl _) _).setCell (Nat.le_refl _) _).cell (show g < _ from hg)
      clear hlv hsv hbel hg0
      go_wp2_with fail
      go_region_held3 (fun w' => w'.cell? ⟨g, off + k * 6, none⟩ = some sv ∧ w'.cell? ⟨g, off + k * 6 + 1, none⟩ = some (.bool l.2.1) ∧ w'.cell? ⟨g, off + k * 6 + 2, none⟩ = some (.int .i64 l.2.2.1) ∧ w'.cell? ⟨g, off + k * 6 + 3, none⟩ = some (.bool l.2.2.2.1) ∧ w'.cell? ⟨g, off + k * 6 + 4, none⟩ = some (.string l.2.2.2.2.1) ∧ w'.cell? ⟨g, off + k * 6 + 5, none⟩ = some (.int .i64 l.2.2.2.2.2))
        (first | go_keep | (have eb : ∀ o, w1x.cell? ⟨g, o, none⟩ = wr.cell? ⟨g, o, none⟩ := (fun o => HBx.out.cell (show g < _ by omega)); first | (simp only [eb]; exact ⟨c0, c1, c2, c3, c4, c5⟩) | (have ks := KS.out; simp only [ks, eb]; exact ⟨c0, c1, c2, c3, c4, c5⟩)))
        (first | (go_at_call 12; refine (ints_any l.1 sv w.heap.size _ (HSV.out.later (Below.refl _ _ |>.drew) (Nat.le_refl _) (Nat.le_refl _)) (by show w.heap.size ≤ wr.heap.size; omega) (by have := HLL.out; omega)).mono ?_; rintro e w1x ⟨v1, rfl, hO1, hB1⟩; have HBx : Hid (Below wr.heap.size wr w1x) := ⟨hB1.os, hB1.tape, hB1.output, hB1.size, hB1.block⟩; obtain ⟨ao1, cp1, rfl⟩ := hO1.form; have HO1 : Hid (Owns w1x wr.heap.size (.slice ao1 l.1.length cp1) l.1) := hO1; clear hO1 hB1; obtain ⟨d0, d1, d2, d3, d4, d5⟩ := HD.out w1x HBx.out; have df := fun o => HF.out w1x HBx.out o))
      have HP2 : Hid (Part w _ ls.length (k + 1) _ ls) := part_step hP.out hlt hl hzr HBx.out HO1.out
      clear hP HBx HO1 HD HF KS d0 d1 d2 d3 d4 d5 df c0 c1 c2 c3 c4 c5 HSV HLL H1 HS
      unfold six at HP2
      go_wp2_with fail
      go_roundw
      case rel => exact ⟨k + 1, _, by omega, by go_num, HP2⟩
      case measure => simp [intOf]; omega
    · have hlt' : ¬ (k : Int) < ls.length := by omega
      obtain rfl : k = ls.length := by omega
      go_wp2_with fail
      go_ret
      exact ⟨rfl, svs, hP.out⟩
end Go.Proofs.Qxb6628598a

import Derived.Test.Qxb6628598aSizes
import Derived.Test.Qxb6628598aSame
import Derived.Deep.RegionHeld3
import Derived.Deep.DrawnRows
namespace Go.Proofs.Qxb6628598a
open Go.ChangeShapes Go.WideShapes Go.ChangeAt Go.RowKit
attribute [local go_sem ↓] Go.wp_at_zero Go.wp_at_succ

theorem flat_set : ∀ (k : Nat) (svs : List Value) (ls : List Lvl) (i : Nat) (u sv sv' : Value) (l l' : Lvl), svs[k]? = some sv → ls[k]? = some l → i < 6 → (lrow sv l).set i u = lrow sv' l' →
    (flat svs ls).set (k * 6 + i) u = flat (svs.set k sv') (ls.set k l')
  | 0, s :: svs, m :: ls, i, u, sv, sv', l, l', h1, h2, hi, hu => by
    simp at h1 h2
    subst h1 h2
    simp only [flat, List.set_cons_zero, Nat.zero_mul, Nat.zero_add]
    rw [List.set_append_left _ _ (by simpa [lrow] using hi), hu]
  | k + 1, s :: svs, m :: ls, i, u, sv, sv', l, l', h1, h2, hi, hu => by
    simp only [flat, List.set_cons_succ]
    rw [List.set_append_right _ _ (by simp [lrow]; omega), show (k + 1) * 6 + i - (lrow s m).length = k * 6 + i from by simp [lrow]; omega]
    rw [flat_set k svs ls i u sv sv' l l' (by simpa using h1) (by simpa using h2) hi hu]
  | _, [], _, _, _, _, _, _, _, h1, _, _, _ => by simp at h1
  | _, _ :: _, [], _, _, _, _, _, _, _, h2, _, _ => by simp at h2

/-- what fnChanged answers: some other chain, laid anew -/
def ChPost (w : World) (ls : List Lvl) (e : Ending) (w' : World) : Prop :=
  ∃ (ms : List Lvl) (ao : Option Addr) (c : Nat), e = .returned (.slice ao ms.length c) ∧ LvlsAt w' w'.heap.size ao ms ∧ Below w.heap.size w w' ∧ ms ≠ ls ∧ ms.length ≤ 65537 ∧ ∀ l ∈ ms, l.1.length ≤ 131073

theorem ch_of {w W : World} {ls ms : List Lvl} {svs : List Value} {base : Nat} {v : Value} {e : Ending} (he : e = .returned v) (row : W.ownsRow base 33 6 v ms.length (flat svs ms)) (len : svs.length = ms.length)
    (inner : ∀ (j : Nat) (sv : Value) (l : Lvl), svs[j]? = some sv → ms[j]? = some l → SlcAt W W.heap.size sv l.1) (hb : Below w.heap.size w W) (hne : ms ≠ ls) (hl : ms.length ≤ 65537) (hs : ∀ l ∈ ms, l.1.length ≤ 131073) : ChPost w ls e W := by
  subst he
  rcases row.2 with ⟨rfl, h0⟩ | ⟨g, cap, cur, rfl, hb', hg, hnc, hcm, _⟩
  · have : ms = [] := List.eq_nil_of_length_eq_zero h0
    subst this
    exact ⟨[], none, 0, rfl, .inl rfl, hb, hne, hl, hs⟩
  · refine ⟨ms, some ⟨g, 0, none⟩, cap, rfl, .inr ⟨g, 0, rfl, (Array.getElem?_eq_some_iff.1 hg).1, fun j l hj => ?_⟩, hb, hne, hl, hs⟩
    have hjl : j < ms.length := (List.getElem?_eq_some_iff.1 hj).1
    obtain ⟨sv, hsv⟩ : ∃ sv, svs[j]? = some sv := ⟨_, List.getElem?_eq_getElem (by rw [len]; exact hjl)⟩
    have key : ∀ i, i < 6 → W.cell? ⟨g, 0 + j * 6 + i, none⟩ = (lrow sv l)[i]? := by
      intro i hi
      rw [Nat.zero_add, row.cellAt (j * 6 + i) (by omega)]
      exact flat_get svs ms j i sv l hsv hj hi
    exact ⟨sv, inner j sv l hsv hj, key 0 (by omega), key 1 (by omega), key 2 (by omega), key 3 (by omega), key 4 (by omega), key 5 (by omega)⟩

/-- one level of the clone: its six cells -/
theorem Part.cells {w wr : World} {svs : List Value} {ls : List Lvl} (h : Part w wr ls.length ls.length svs ls) {k : Nat} {l : Lvl} (hl : ls[k]? = some l) :
    ∃ sv, svs[k]? = some sv ∧ Owns wr w.heap.size sv l.1 ∧ wr.cell? ⟨w.heap.size, k * 6, none⟩ = some sv ∧ wr.cell? ⟨w.heap.size, k * 6 + 1, none⟩ = some (.bool l.2.1) ∧ wr.cell? ⟨w.heap.size, k * 6 + 2, none⟩ = some (.int .i64 l.2.2.1) ∧
      wr.cell? ⟨w.heap.size, k * 6 + 3, none⟩ = some (.bool l.2.2.2.1) ∧ wr.cell? ⟨w.heap.size, k * 6 + 4, none⟩ = some (.string l.2.2.2.2.1) ∧ wr.cell? ⟨w.heap.size, k * 6 + 5, none⟩ = some (.int .i64 l.2.2.2.2.2) := by
  have hkl : k < ls.length := (List.getElem?_eq_some_iff.1 hl).1
  obtain ⟨sv, hsv⟩ : ∃ sv, svs[k]? = some sv := ⟨_, List.getElem?_eq_getElem (by rw [h.len]; exact hkl)⟩
  have key : ∀ i, i < 6 → wr.cell? ⟨w.heap.size, k * 6 + i, none⟩ = (lrow sv l)[i]? := by
    intro i hi
    rw [h.row.cellAt (k * 6 + i) (by omega), List.take_of_length_le (Nat.le_refl _), List.getElem?_append_left (by rw [flat_length _ _ h.len]; omega)]
    exact flat_get svs ls k i sv l hsv hl hi
  exact ⟨sv, hsv, h.inner k sv l hsv hl, key 0 (by omega), key 1 (by omega), key 2 (by omega), key 3 (by omega), key 4 (by omega), key 5 (by omega)⟩

theorem Part.row' {w wr : World} {svs : List Value} {ls : List Lvl} (h : Part w wr ls.length ls.length svs ls) : wr.ownsRow w.heap.size 33 6 (.slice (some ⟨w.heap.size, 0, none⟩) ls.length ls.length) ls.length (flat svs ls) := by
  have := h.row
  rw [List.take_of_length_le (Nat.le_refl _), Nat.sub_self, show zeros 0 = [] from rfl, List.append_nil] at this
  exact this

theorem get_set {α : Type} {xs : List α} {k j : Nat} {a b : α} (h : (xs.set k a)[j]? = some b) : (j = k ∧ b = a) ∨ (j ≠ k ∧ xs[j]? = some b) := by
  by_cases e : j = k
  · subst e
    have hl : j < (xs.set j a).length := (List.getElem?_eq_some_iff.1 h).1
    rw [List.length_set] at hl
    rw [List.getElem?_set_self hl] at h
    exact .inl ⟨rfl, (Option.some.inj h).symm⟩
  · rw [List.getElem?_set_ne (by omega)] at h
    exact .inr ⟨e, h⟩

theorem set_self' {α : Type} {xs : List α} {k : Nat} {a : α} (h : xs[k]? = some a) : xs.set k a = xs := by
  obtain ⟨hk, rfl⟩ := List.getElem?_eq_some_iff.1 h
  exact List.set_getElem_self hk

/-- one cell of level k, not its items, is stored -/
theorem ch_cell {w wr : World} {svs : List Value} {ls : List Lvl} (h : Part w wr ls.length ls.length svs ls) {k i : Nat} {sv : Value} {l l' : Lvl} (hsv : svs[k]? = some sv) (hl : ls[k]? = some l) (u : Value) (hi : i < 6) (hu : (lrow sv l).set i u = lrow sv l') (hit : l'.1 = l.1) (hne : l' ≠ l)
    (hn : ls.length ≤ 65536) (hs : ∀ l ∈ ls, l.1.length ≤ 131072) {e : Ending} (he : e = .returned (.slice (some ⟨w.heap.size, 0, none⟩) ls.length ls.length)) : ChPost w ls e (wr.setCell ⟨w.heap.size, k * 6 + i, none⟩ u) := by
  have hkl : k < ls.length := (List.getElem?_eq_some_iff.1 hl).1
  have hrow := (h.row'.stored (k * 6 + i) u).1
  rw [flat_set k svs ls i u sv sv l l' hsv hl hi hu] at hrow
  have hb : Below w.heap.size w (wr.setCell ⟨w.heap.size, k * 6 + i, none⟩ u) := h.below.setCell (Nat.le_refl _) _
  refine ch_of he (ms := ls.set k l') (svs := svs.set k sv) (base := w.heap.size) (by rw [List.length_set]; exact hrow) (by rw [List.length_set, List.length_set]; exact h.len) ?_ hb ?_ (by rw [List.length_set]; omega) ?_
  · intro j s m hj hm
    have hj0 : svs[j]? = some s := by
      rcases get_set hj with ⟨rfl, rfl⟩ | ⟨_, hj⟩
      · exact hsv
      · exact hj
    obtain ⟨m0, hm0, hm1⟩ : ∃ m0, ls[j]? = some m0 ∧ m.1 = m0.1 := by
      rcases get_set hm with ⟨rfl, rfl⟩ | ⟨_, hm⟩
      · exact ⟨l, hl, hit⟩
      · exact ⟨m, hm, rfl⟩
    have hO : Owns (wr.setCell ⟨w.heap.size, k * 6 + i, none⟩ u) w.heap.size s m0.1 := ownsRow_other (h.inner j s m0 hj0 hm0) (fun e => by have := (h.over j s _ hj0 e).1; simp at this) _
    rw [hm1]
    exact hO.slc
  · intro e
    have : (ls.set k l')[k]? = some l' := by rw [List.getElem?_set]; simp [hkl]
    rw [e, hl] at this
    exact hne (Option.some.inj this).symm
  · intro m hm
    rcases List.mem_or_eq_of_mem_set hm with hm | rfl
    · have := hs m hm; omega
    · rw [hit]; have := hs l (List.mem_of_getElem? hl); omega

theorem ownsRow_up {w : World} {base base' : Nat} {e : TypeId} {size : Nat} {v : Value} {n : Nat} {xs : List Value} (h : w.ownsRow base e size v n xs) (hb : ∀ b, v.ownBlock = some b → base' ≤ b) : w.ownsRow base' e size v n xs := by
  refine ⟨h.1, ?_⟩
  rcases h.2 with h2 | ⟨g, cap, cur, rfl, hg, r⟩
  · exact .inl h2
  · exact .inr ⟨g, cap, cur, rfl, hb g rfl, r⟩

theorem ownsRow_keep {w w' : World} {base : Nat} {e : TypeId} {size : Nat} {v : Value} {n : Nat} {xs : List Value} (h : w.ownsRow base e size v n xs) (hk : ∀ b, v.ownBlock = some b → w'.heap[b]? = w.heap[b]?) : w'.ownsRow base e size v n xs := by
  refine ⟨h.1, ?_⟩
  rcases h.2 with h2 | ⟨g, cap, cur, rfl, hg, hh, r⟩
  · exact .inl h2
  · exact .inr ⟨g, cap, cur, rfl, hg, by rw [hk g rfl]; exact hh, r⟩

/-- level k gets other items, and nothing else turns -/
theorem ch_row {w W : World} {svs : List Value} {ls : List Lvl} {k : Nat} {l : Lvl} {v' : Value} {ys : List Int} (hl : ls[k]? = some l) (hlen : svs.length = ls.length)
    (row : W.ownsRow w.heap.size 33 6 (.slice (some ⟨w.heap.size, 0, none⟩) ls.length ls.length) ls.length (flat (svs.set k v') (ls.set k (ys, l.2))))
    (hO : SlcAt W W.heap.size v' ys) (hI : ∀ (j : Nat) (s : Value) (m : Lvl), j ≠ k → svs[j]? = some s → ls[j]? = some m → SlcAt W W.heap.size s m.1) (hb : Below w.heap.size w W)
    (hne : ys ≠ l.1) (hy : ys.length ≤ 131073) (hn : ls.length ≤ 65536) (hs : ∀ l ∈ ls, l.1.length ≤ 131072) {e : Ending} (he : e = .returned (.slice (some ⟨w.heap.size, 0, none⟩) ls.length ls.length)) : ChPost w ls e W := by
  have hkl : k < ls.length := (List.getElem?_eq_some_iff.1 hl).1
  refine ch_of he (ms := ls.set k (ys, l.2)) (svs := svs.set k v') (base := w.heap.size) (by rw [List.length_set]; exact row) (by rw [List.length_set, List.length_set]; exact hlen) ?_ hb ?_ (by rw [List.length_set]; omega) ?_
  · intro j s m hj hm
    rcases get_set hj with ⟨rfl, rfl⟩ | ⟨hjk, hj⟩
    · rcases get_set hm with ⟨_, rfl⟩ | ⟨h, _⟩
      · exact hO
      · exact absurd rfl h
    · rcases get_set hm with ⟨h, _⟩ | ⟨_, hm⟩
      · exact absurd h hjk
      · exact hI j s m hjk hj hm
  · intro e
    have : (ls.set k (ys, l.2))[k]? = some (ys, l.2) := by rw [List.getElem?_set_self hkl]
    rw [e, hl] at this
    have := Option.some.inj this
    exact hne (by rw [this])
  · intro m hm
    rcases List.mem_or_eq_of_mem_set hm with hm | rfl
    · have := hs m hm; omega
    · exact hy

/-- c[k].Items = append(c[k].Items, 0) -/
theorem ch_items {w w1 wA : World} {svs : List Value} {ls : List Lvl} (h : Part w w1 ls.length ls.length svs ls) {k : Nat} {sv v' : Value} {l : Lvl} {ys : List Int} (hsv : svs[k]? = some sv) (hl : ls[k]? = some l)
    (hO : Owns wA (w.heap.size + 1) v' ys) (hkeep : ∀ b, b < w1.heap.size → sv.ownBlock ≠ some b → wA.heap[b]? = w1.heap[b]?) (hbel : Below w.heap.size w wA)
    (hne : ys ≠ l.1) (hy : ys.length ≤ 131073) (hn : ls.length ≤ 65536) (hs : ∀ l ∈ ls, l.1.length ≤ 131072) {e : Ending} (he : e = .returned (.slice (some ⟨w.heap.size, 0, none⟩) ls.length ls.length)) : ChPost w ls e (wA.setCell ⟨w.heap.size, k * 6, none⟩ v') := by
  have hg := (h.row.lt w.heap.size rfl).2
  have hrow : wA.ownsRow w.heap.size 33 6 (.slice (some ⟨w.heap.size, 0, none⟩) ls.length ls.length) ls.length (flat svs ls) :=
    ownsRow_keep h.row' (fun b hb => by
      simp [Value.ownBlock] at hb
      subst hb
      exact hkeep _ hg (fun e => by have := (h.over k sv _ hsv e).1; omega))
  have hrow2 := (hrow.stored (k * 6 + 0) v').1
  rw [flat_set k svs ls 0 v' sv v' l (ys, l.2) hsv hl (by omega) rfl] at hrow2
  have hvb : v'.ownBlock ≠ some w.heap.size := fun e => by have := (hO.lt _ e).1; omega
  have hO2 : Owns (wA.setCell ⟨w.heap.size, k * 6, none⟩ v') (w.heap.size + 1) v' ys := ownsRow_other hO hvb _
  refine ch_row hl h.len hrow2 hO2.slc ?_ (hbel.setCell (Nat.le_refl _) _) hne hy hn hs he
  intro j s m hjk hj hm
  have h0 := h.inner j s m hj hm
  have hlt := h.over j s
  have h1 : Owns wA w.heap.size s m.1 := ownsRow_keep h0 (fun b hb => hkeep b (hlt b hj hb).2 (fun e => h.apart k j sv s b (fun e => hjk e.symm) hsv hj e hb))
  have h2 : Owns (wA.setCell ⟨w.heap.size, k * 6, none⟩ v') w.heap.size s m.1 := ownsRow_other h1 (fun e => by have := (hlt _ hj e).1; simp at this) _
  exact h2.slc

/-- c[k].Items[0] = u -/
theorem ch_inner {w w1 : World} {svs : List Value} {ls : List Lvl} (h : Part w w1 ls.length ls.length svs ls) {k b cap : Nat} {l : Lvl} {z z' : Int} {t : List Int} (hsv : svs[k]? = some (.slice (some ⟨b, 0, none⟩) l.1.length cap)) (hl : ls[k]? = some l)
    (hlz : l.1 = z :: t) (hne : z' ≠ z) (hn : ls.length ≤ 65536) (hs : ∀ l ∈ ls, l.1.length ≤ 131072) {e : Ending} (he : e = .returned (.slice (some ⟨w.heap.size, 0, none⟩) ls.length ls.length)) : ChPost w ls e (w1.setCell ⟨b, 0, none⟩ (.int .i64 z')) := by
  have hov := (h.over k _ b hsv rfl).1
  have hrow : (w1.setCell ⟨b, 0, none⟩ (.int .i64 z')).ownsRow w.heap.size 33 6 (.slice (some ⟨w.heap.size, 0, none⟩) ls.length ls.length) ls.length (flat svs ls) :=
    ownsRow_other h.row' (fun e => by simp [Value.ownBlock] at e; omega) _
  have hO : Owns w1 w.heap.size (.slice (some ⟨b, 0, none⟩) l.1.length cap) l.1 := h.inner k _ l hsv hl
  have hO2 := (World.ownsRow.stored hO 0 (.int .i64 z')).1
  have hcs : (cellsOf l.1).set 0 (.int .i64 z') = cellsOf (z' :: t) := by rw [hlz]; rfl
  rw [hcs] at hO2
  have hlen : (z' :: t).length = l.1.length := by rw [hlz]; rfl
  have hrow2 : (w1.setCell ⟨b, 0, none⟩ (.int .i64 z')).ownsRow w.heap.size 33 6 (.slice (some ⟨w.heap.size, 0, none⟩) ls.length ls.length) ls.length (flat (svs.set k (.slice (some ⟨b, 0, none⟩) l.1.length cap)) (ls.set k (z' :: t, l.2))) := by
    have e := flat_set k svs ls 0 (.slice (some ⟨b, 0, none⟩) l.1.length cap) (.slice (some ⟨b, 0, none⟩) l.1.length cap) (.slice (some ⟨b, 0, none⟩) l.1.length cap) l (z' :: t, l.2) hsv hl (by omega) rfl
    have e2 : (flat svs ls).set (k * 6 + 0) (.slice (some ⟨b, 0, none⟩) l.1.length cap) = flat svs ls := by
      have hg := flat_get svs ls k 0 _ l hsv hl (by omega)
      exact set_self' hg
    rw [← e, e2]
    exact hrow
  have hO3 : Owns (w1.setCell ⟨b, 0, none⟩ (.int .i64 z')) w.heap.size (.slice (some ⟨b, 0, none⟩) l.1.length cap) (z' :: t) := by
    unfold Owns
    rw [hlen]
    exact hO2
  refine ch_row hl h.len hrow2 hO3.slc ?_ (h.below.setCell (by show w.heap.size ≤ b; omega) _) (by rw [hlz]; intro e; injection e with e _; exact hne e) (by rw [hlen]; have := hs l (List.mem_of_getElem? hl); omega) hn hs he
  intro j s m hjk hj hm
  have h1 : Owns (w1.setCell ⟨b, 0, none⟩ (.int .i64 z')) w.heap.size s m.1 := ownsRow_other (h.inner j s m hj hm) (fun e => h.apart j k s _ b hjk hj hsv e rfl) _
  exact h1.slc
end Go.Proofs.Qxb6628598a

import Derived.Test.Qxb6628598aBase
import Derived.Deep.RegionHeld3
import Derived.Deep.DrawnRows
namespace Go.Proofs.Qxb6628598a
open Go.ChangeShapes Go.WideShapes Go.ChangeAt Go.RowKit
attribute [local go_sem ↓] Go.wp_at_zero Go.wp_at_succ

theorem chain_cons {w : World} {sa q : Option Addr} {sc : Nat} {l : Lvl} {t : List Lvl} (hs : SlcAt w w.heap.size (.slice sa l.1.length sc) l.1) (hC : Chain w w.heap.size (.pointer q) t) :
    Chain (w.alloc (.cells #[.slice sa l.1.length sc, .bool l.2.1, .pointer q, .int .i64 l.2.2.1, .bool l.2.2.2.1, .string l.2.2.2.2.1, .int .i64 l.2.2.2.2.2] 38)).drew
      (w.alloc (.cells #[.slice sa l.1.length sc, .bool l.2.1, .pointer q, .int .i64 l.2.2.1, .bool l.2.2.2.1, .string l.2.2.2.2.1, .int .i64 l.2.2.2.2.2] 38)).drew.heap.size (.pointer (some ⟨w.heap.size, 0, none⟩)) (l :: t) := by
  have hb : Below w.heap.size w (w.alloc (.cells #[.slice sa l.1.length sc, .bool l.2.1, .pointer q, .int .i64 l.2.2.1, .bool l.2.2.2.1, .string l.2.2.2.2.1, .int .i64 l.2.2.2.2.2] 38)).drew := ((Below.refl _ _).alloc (Nat.le_refl _) _).drew
  have hz := hb.size
  refine ⟨w.heap.size, .pointer q, .slice sa l.1.length sc, rfl, by simp, hs.later hb (Nat.le_refl _) hz, ?_, ?_, ?_, ?_, ?_, ?_, ?_, hC.later hb (Nat.le_refl _) hz⟩ <;> go_simp

theorem Chain.ptr {w : World} {B : Nat} {p : Value} {ls : List Lvl} (h : Chain w B p ls) : ∃ q, p = .pointer q := by
  cases ls with
  | nil => exact ⟨none, h⟩
  | cons l t => obtain ⟨g, q, sv, hp, _⟩ := h; exact ⟨_, hp⟩

theorem drop_cons {ls : List Lvl} {m : Nat} {l : Lvl} (h : ls[m]? = some l) : ls.drop m = l :: ls.drop (m + 1) := by
  obtain ⟨hm, rfl⟩ := List.getElem?_eq_some_iff.1 h
  exact List.drop_eq_getElem_cons hm

set_option maxHeartbeats 2000000 in
theorem build_any (ls : List Lvl) (ao : Option Addr) (c B : Nat) (w : World) (hr : LvlsAt w B ao ls) (hB : B ≤ w.heap.size) (hn : ls.length ≤ 65536) :
    Calls Try.prog 8 #[.slice ao ls.length c] w fun e w' => ∃ q, e = .returned (.pointer q) ∧ Chain w' w'.heap.size (.pointer q) ls ∧ Below w.heap.size w w' := by
  have H1 : Hid (LvlsAt w w.heap.size ao ls) := hr.later (Below.refl _ _) (Nat.le_refl _) hB
  clear hr
  go_enter Try.func8, Try.ntmps8
  go_wp2_with fail
  go_loopw [3, 4] (fun s i wr => ∃ (k : Nat) (q : Option Addr), k ≤ ls.length ∧ i = .int .i64 ((k : Int) - 1) ∧ s = .pointer q ∧ Hid (Chain wr wr.heap.size (.pointer q) (ls.drop k)) ∧ Hid (Below w.heap.size w wr)) (fun _ i _ => (intOf i + 1).toNat)
  case atStart =>
    refine ⟨ls.length, none, Nat.le_refl _, ?_, rfl, ?_, Below.refl _ _⟩
    · rfl
    · show Chain _ _ _ _
      rw [List.drop_length]; rfl
  case round =>
    obtain ⟨k, q, hk, rfl, rfl, hC, hb⟩ := hrel
    cases k with
    | zero =>
      rw [show ((0 : Nat) : Int) - 1 = -1 from rfl]
      go_wp2_with fail
      go_ret
      exact ⟨q, rfl, hC.out, hb.out⟩
    | succ m =>
      rw [show ((m + 1 : Nat) : Int) - 1 = (m : Int) from by omega]
      obtain ⟨l, hl⟩ : ∃ l, ls[m]? = some l := ⟨_, List.getElem?_eq_getElem (by omega)⟩
      rcases (H1.out.later hb.out (Nat.le_refl _) (Nat.le_refl _)) with h | ⟨g, off, rfl, hg, hlv⟩
      · rw [h] at hk; simp at hk
      obtain ⟨sv, ⟨sa, sc, rfl, hsn, hsi⟩, c0, c1, c2, c3, c4, c5⟩ := hlv m l hl
      have hm0 : (0 : Int) ≤ (m : Int) := by omega
      have hm1 : (m : Int) < ls.length := by omega
      clear hlv
      go_wp2_with fail
      go_region_held3 (fun w' => w'.cell? ⟨g, off + m * 6, none⟩ = some (.slice sa l.1.length sc) ∧ w'.cell? ⟨g, off + m * 6 + 1, none⟩ = some (.bool l.2.1) ∧ w'.cell? ⟨g, off + m * 6 + 2, none⟩ = some (.int .i64 l.2.2.1) ∧ w'.cell? ⟨g, off + m * 6 + 3, none⟩ = some (.bool l.2.2.2.1) ∧ w'.cell? ⟨g, off + m * 6 + 4, none⟩ = some (.string l.2.2.2.2.1) ∧ w'.cell? ⟨g, off + m * 6 + 5, none⟩ = some (.int .i64 l.2.2.2.2.2)) (go_keep)
        (first | (go_at_call 13; refine (zznew_any _ _ _ _ _ _ _ _ _ _).mono ?_; rintro e w' ⟨rfl, rfl⟩))
      have HC2 := chain_cons (q := q) (l := l) ⟨sa, sc, rfl, hsn, hsi.later (Below.refl _ _) (Nat.le_refl _) hb.out.size⟩ hC.out
      rw [← drop_cons hl] at HC2
      have HC3 : Hid _ := HC2
      have HB3 : Hid (Below w.heap.size w _) := (hb.out.alloc hb.out.size (.cells #[.slice sa l.1.length sc, .bool l.2.1, .pointer q, .int .i64 l.2.2.1, .bool l.2.2.2.1, .string l.2.2.2.2.1, .int .i64 l.2.2.2.2.2] 38)).drew
      clear HC2 hC hb c0 c1 c2 c3 c4 c5 hsi hsn H1 hl
      go_wp2_with fail
      go_roundw
      case rel => exact ⟨m, _, by omega, rfl, rfl, HC3, HB3⟩
      case measure => simp [intOf]
end Go.Proofs.Qxb6628598a

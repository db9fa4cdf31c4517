import Derived.Test.Qxb6628511aRows
import Derived.WalkKit
import Derived.WalkLawsBesides
import Derived.ProofKit
import Derived.LoopN
namespace Go.Proofs.Qxb6628511a
open Go.ChangeShapes Go.WideShapes Go.ChangeAt Go.RowKit

def keyA : ByteArray := ⟨#[97, 110, 99, 104, 111, 114, 95, 99, 111, 108, 117, 109, 110, 95, 105, 100]⟩
def keyR : ByteArray := ⟨#[114, 101, 116, 117, 114, 110, 95, 99, 111, 108, 117, 109, 110, 95, 105, 100]⟩

theorem Try.info28 : (Try.prog.info? 28).map (fun i => (i.zero, i.size, i.bytes)) = some (some (.agg #[.string ⟨#[]⟩, .string ⟨#[]⟩]), 2, 32) := by kernel_rfl

set_option maxHeartbeats 1000000 in
theorem cols_00 (a r : ByteArray) (w : World) (hna : a.toList.isEmpty = true) (hnr : r.toList.isEmpty = true) :
    Calls Try.prog 6 #[.agg #[.string a, .string r]] w fun e w' => e = .returned (.slice none 0 0) ∧ Below w.heap.size w w' := by
  go_enter Try.func6, Try.ntmps6
  go_wp2
  refine wp_loop_rounds 3 ?_
  rw [rounds_succ]
  go_wp2_with fail
  rw [rounds_succ]
  go_wp2_with fail
  rw [rounds_succ]
  go_wp2_with fail
  go_ret
  exact ⟨rfl, ((((Below.refl _ _).alloc (Nat.le_refl _) _).alloc (by simp) _).alloc (by simp; omega) _).alloc (by simp; omega) _⟩

/-- one column, at block g -/
def One (w w' : World) (v : Value) (k x : ByteArray) : Prop :=
  ∃ g cap, v = .slice (some ⟨g, 0, none⟩) 1 cap ∧ w.heap.size ≤ g ∧ g < w'.heap.size ∧ w'.cell? ⟨g, 0, none⟩ = some (.string k) ∧ w'.cell? ⟨g, 1, none⟩ = some (.string x)

theorem one_of {w w' : World} {v : Value} {k x : ByteArray} (h : w'.ownsRow w.heap.size 28 2 v 1 [.string k, .string x]) : One w w' v k x := by
  rcases h.2 with ⟨_, h0⟩ | ⟨g, cap, cur, rfl, hb, hg, _⟩
  · omega
  · exact ⟨g, cap, rfl, hb, (Array.getElem?_eq_some_iff.1 hg).1, h.cellAt 0 (by omega), h.cellAt 1 (by omega)⟩

theorem two_at (W : World) (x y : Value) (t : TypeId) (b : Nat) (hb : b = W.heap.size) : ∀ j u, [x, y][j]? = some u → (W.alloc (.cells #[x, y] t)).cell? ((⟨b, 0, none⟩ : Addr).add j) = some u := by
  subst hb; exact cell_two_new W x y t

set_option maxHeartbeats 1000000 in
theorem cols_10 (a r : ByteArray) (w : World) (hna : a.toList.isEmpty = false) (hnr : r.toList.isEmpty = true) :
    Calls Try.prog 6 #[.agg #[.string a, .string r]] w fun e w' => ∃ v, e = .returned v ∧ Below w.heap.size w w' ∧ One w w' v keyA a := by
  obtain ⟨i0, hi, hz0, hz1, hz2⟩ := info_parts Try.info28
  go_enter Try.func6, Try.ntmps6
  go_wp2
  refine wp_loop_rounds 3 ?_
  rw [rounds_succ]
  go_wp2_with (at_builtin; refine wpList_append_own _ rfl _ _ 23 rfl w.heap.size 28 i0 (.agg #[.string ⟨#[]⟩, .string ⟨#[]⟩]) 2 32 Try.underlying23 hi hz0 hz1 hz2 rfl (by decide) (.slice none 0 0) 0 [] rfl (World.ownsRow_nil _ _ _ _) ⟨w.heap.size + 1 + 1 + 1, 0, none⟩ 1 1 [.string keyA, .string a] rfl rfl (by exact two_at _ _ _ 28 _ (by simp)) (fun x hx => by simp at hx; rcases hx with rfl | rfl <;> rfl) (by unfold maxLen; omega) (by omega) (by simp; omega) ?_; intro v' w3 hown' hgrow3 hnil3)
  have hz : w.heap.size + 4 ≤ w3.heap.size := by have := hgrow3.size; simp at this; omega
  have hb : Below w.heap.size w w3 := Below.grown (((((Below.refl _ _).alloc (Nat.le_refl _) _).alloc (by simp) _).alloc (by simp; omega) _).alloc (by simp; omega) _) hgrow3 (by simp; omega) (fun k hk => by simp [Value.ownBlock] at hk)
  have c2 : w3.cell? ⟨w.heap.size + 1, 2, none⟩ = some (.string keyR) := hgrow3.cell (by go_simp; rfl) (by simp [Value.ownBlock])
  have c3 : w3.cell? ⟨w.heap.size + 1, 3, none⟩ = some (.string r) := hgrow3.cell (by go_simp) (by simp [Value.ownBlock])
  have X : Hid (w3.ownsRow w.heap.size 28 2 v' 1 [.string keyA, .string a] ∧ Below w.heap.size w w3) := ⟨hown', hb⟩
  clear hown' hgrow3 hnil3 hb
  rw [rounds_succ]
  go_wp2_with fail
  rw [rounds_succ]
  go_wp2_with fail
  go_ret
  exact ⟨v', rfl, X.out.2.alloc (by omega) _, one_of (X.out.1.alloc _)⟩

set_option maxHeartbeats 1000000 in
theorem cols_01 (a r : ByteArray) (w : World) (hna : a.toList.isEmpty = true) (hnr : r.toList.isEmpty = false) :
    Calls Try.prog 6 #[.agg #[.string a, .string r]] w fun e w' => ∃ v, e = .returned v ∧ Below w.heap.size w w' ∧ One w w' v keyR r := by
  obtain ⟨i0, hi, hz0, hz1, hz2⟩ := info_parts Try.info28
  go_enter Try.func6, Try.ntmps6
  go_wp2
  refine wp_loop_rounds 3 ?_
  rw [rounds_succ]
  go_wp2_with fail
  rw [rounds_succ]
  go_wp2_with (at_builtin; refine wpList_append_own _ rfl _ _ 23 rfl w.heap.size 28 i0 (.agg #[.string ⟨#[]⟩, .string ⟨#[]⟩]) 2 32 Try.underlying23 hi hz0 hz1 hz2 rfl (by decide) (.slice none 0 0) 0 [] rfl (World.ownsRow_nil _ _ _ _) ⟨w.heap.size + 1 + 1 + 1 + 1, 0, none⟩ 1 1 [.string keyR, .string r] rfl rfl (by exact two_at _ _ _ 28 _ (by simp)) (fun x hx => by simp at hx; rcases hx with rfl | rfl <;> rfl) (by unfold maxLen; omega) (by omega) (by simp; omega) ?_; intro v' w3 hown' hgrow3 hnil3)
  have hb : Below w.heap.size w w3 := Below.grown ((((((Below.refl _ _).alloc (Nat.le_refl _) _).alloc (by simp) _).alloc (by simp; omega) _).alloc (by simp; omega) _).alloc (by simp; omega) _) hgrow3 (by simp; omega) (fun k hk => by simp [Value.ownBlock] at hk)
  have X : Hid (w3.ownsRow w.heap.size 28 2 v' 1 [.string keyR, .string r] ∧ Below w.heap.size w w3) := ⟨hown', hb⟩
  clear hown' hgrow3 hnil3 hb
  rw [rounds_succ]
  go_wp2_with fail
  go_ret
  exact ⟨v', rfl, X.out.2, one_of X.out.1⟩

/-- two columns, at block g -/
def Two (w w' : World) (v : Value) (a r : ByteArray) : Prop :=
  ∃ g cap, v = .slice (some ⟨g, 0, none⟩) 2 cap ∧ w.heap.size ≤ g ∧ g < w'.heap.size ∧ w'.cell? ⟨g, 0, none⟩ = some (.string keyA) ∧ w'.cell? ⟨g, 1, none⟩ = some (.string a) ∧ w'.cell? ⟨g, 2, none⟩ = some (.string keyR) ∧ w'.cell? ⟨g, 3, none⟩ = some (.string r)

theorem two_of {w w' : World} {v : Value} {a r : ByteArray} (h : w'.ownsRow w.heap.size 28 2 v 2 [.string keyA, .string a, .string keyR, .string r]) : Two w w' v a r := by
  rcases h.2 with ⟨_, h0⟩ | ⟨g, cap, cur, rfl, hb, hg, _⟩
  · omega
  · exact ⟨g, cap, rfl, hb, (Array.getElem?_eq_some_iff.1 hg).1, h.cellAt 0 (by omega), h.cellAt 1 (by omega), h.cellAt 2 (by omega), h.cellAt 3 (by omega)⟩

set_option maxHeartbeats 1000000 in
theorem cols_11 (a r : ByteArray) (w : World) (hna : a.toList.isEmpty = false) (hnr : r.toList.isEmpty = false) :
    Calls Try.prog 6 #[.agg #[.string a, .string r]] w fun e w' => ∃ v, e = .returned v ∧ Below w.heap.size w w' ∧ Two w w' v a r := by
  obtain ⟨i0, hi, hz0, hz1, hz2⟩ := info_parts Try.info28
  go_enter Try.func6, Try.ntmps6
  go_wp2
  refine wp_loop_rounds 3 ?_
  rw [rounds_succ]
  go_wp2_with (at_builtin; refine wpList_append_own _ rfl _ _ 23 rfl w.heap.size 28 i0 (.agg #[.string ⟨#[]⟩, .string ⟨#[]⟩]) 2 32 Try.underlying23 hi hz0 hz1 hz2 rfl (by decide) (.slice none 0 0) 0 [] rfl (World.ownsRow_nil _ _ _ _) ⟨w.heap.size + 1 + 1 + 1, 0, none⟩ 1 1 [.string keyA, .string a] rfl rfl (by exact two_at _ _ _ 28 _ (by simp)) (fun x hx => by simp at hx; rcases hx with rfl | rfl <;> rfl) (by unfold maxLen; omega) (by omega) (by simp; omega) ?_; intro v' w3 hown' hgrow3 hnil3)
  have hz : w.heap.size + 4 ≤ w3.heap.size := by have := hgrow3.size; simp at this; omega
  have hb : Below w.heap.size w w3 := Below.grown (((((Below.refl _ _).alloc (Nat.le_refl _) _).alloc (by simp) _).alloc (by simp; omega) _).alloc (by simp; omega) _) hgrow3 (by simp; omega) (fun k hk => by simp [Value.ownBlock] at hk)
  have c2 : w3.cell? ⟨w.heap.size + 1, 2, none⟩ = some (.string keyR) := hgrow3.cell (by go_simp; rfl) (by simp [Value.ownBlock])
  have c3 : w3.cell? ⟨w.heap.size + 1, 3, none⟩ = some (.string r) := hgrow3.cell (by go_simp) (by simp [Value.ownBlock])
  have X : Hid (w3.ownsRow w.heap.size 28 2 v' 1 [.string keyA, .string a] ∧ Below w.heap.size w w3) := ⟨hown', hb⟩
  clear hown' hgrow3 hnil3 hb
  obtain ⟨w2, rfl⟩ : ∃ w2, w2 = w3 := ⟨_, rfl⟩
  obtain ⟨v, rfl⟩ : ∃ v, v = v' := ⟨_, rfl⟩
  rw [rounds_succ]
  go_wp2_with (at_builtin; refine wpList_append_own _ rfl _ _ 23 rfl w.heap.size 28 i0 (.agg #[.string ⟨#[]⟩, .string ⟨#[]⟩]) 2 32 Try.underlying23 hi hz0 hz1 hz2 rfl (by decide) v 1 [.string keyA, .string a] rfl ((X.out.1.alloc _).alloc _) ⟨w2.heap.size + 1, 0, none⟩ 1 1 [.string keyR, .string r] rfl rfl (by exact two_at _ _ _ 28 _ (by simp)) (fun x hx => by simp at hx; rcases hx with rfl | rfl <;> rfl) (by unfold maxLen; omega) (by omega) (by simp; omega) ?_; intro v' w3 hown' hgrow3 hnil3)
  have hb : Below w.heap.size w w3 := Below.grown ((X.out.2.alloc (by omega) _).alloc (by simp; omega) _) hgrow3 (by simp; omega) (fun k hk => (X.out.1.lt k hk).1)
  have Y : Hid (w3.ownsRow w.heap.size 28 2 v' 2 [.string keyA, .string a, .string keyR, .string r] ∧ Below w.heap.size w w3) := ⟨hown', hb⟩
  clear hown' hgrow3 hnil3 hb
  rw [rounds_succ]
  go_wp2_with fail
  go_ret
  exact ⟨v', rfl, Y.out.2, two_of Y.out.1⟩
end Go.Proofs.Qxb6628511a

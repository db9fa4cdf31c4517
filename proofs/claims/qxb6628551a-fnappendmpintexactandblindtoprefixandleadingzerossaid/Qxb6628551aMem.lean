import Derived.Test.Qxb6628551aClone
import Derived.Laws.CopyRow
namespace Go.Proofs.Qxb6628551a
open Go.ChangeShapes Go.WideShapes Go.ChangeAt Go.RowKit

/-! the plain law -/
theorem strip_head : ∀ (ns : List Int) (z : Int) (t : List Int), strip ns = z :: t → z ≠ 0
  | [], _, _, h => by simp [strip] at h
  | y :: ys, z, t, h => by
    unfold strip at h
    split at h
    · exact strip_head ys z t h
    · injection h with h1 _; subst h1; assumption
theorem strip_cons {z : Int} (t : List Int) (h : z ≠ 0) : strip (z :: t) = z :: t := by simp [strip, h]
theorem body_nil {ns : List Int} (h : strip ns = []) : body ns = [] := by unfold body; rw [h]
theorem body_hi {ns : List Int} {z : Int} {t : List Int} (h : strip ns = z :: t) (hz : 128 ≤ z) : body ns = 0 :: z :: t := by unfold body; rw [h]; simp [hz]
theorem body_lo {ns : List Int} {z : Int} {t : List Int} (h : strip ns = z :: t) (hz : ¬ 128 ≤ z) : body ns = z :: t := by unfold body; rw [h]; simp [hz]

theorem body_body (ns : List Int) : body (body ns) = body ns := by
  cases h : strip ns with
  | nil => rw [body_nil h]; rfl
  | cons z t =>
    have hz := strip_head ns z t h
    by_cases h8 : 128 ≤ z
    · rw [body_hi h h8]
      exact body_hi (by show strip (0 :: z :: t) = _; rw [strip, if_pos rfl, strip_cons t hz]) h8
    · rw [body_lo h h8]
      exact body_lo (strip_cons t hz) h8

theorem low_zero (t : List Int) (k : Nat) (hk : 1 ≤ k) : low (0 :: t) k = low t k := by
  by_cases h : k ≤ t.length
  · have h1 := low_in (xs := 0 :: t) hk (by simp; omega)
    have h2 := low_in (xs := t) hk h
    rw [List.length_cons, show t.length + 1 - k = (t.length - k) + 1 from by omega, List.getElem?_cons_succ, h2] at h1
    injection h1 with h1
    exact h1.symm
  · rw [low_out h]
    by_cases h' : k = t.length + 1
    · have h1 := low_in (xs := 0 :: t) hk (by simp; omega)
      rw [List.length_cons, h', Nat.sub_self] at h1
      simp at h1
      rw [h', ← h1]
    · exact low_out (by simp; omega)
theorem low_strip : ∀ (ns : List Int) (k : Nat), 1 ≤ k → low (strip ns) k = low ns k
  | [], _, _ => rfl
  | z :: t, k, hk => by
    unfold strip
    split
    · rename_i h; subst h; rw [low_strip t k hk, low_zero t k hk]
    · rfl
theorem low_body (ns : List Int) (k : Nat) (hk : 1 ≤ k) : low (body ns) k = low ns k := by
  rw [← low_strip ns k hk]
  cases h : strip ns with
  | nil => rw [body_nil h]
  | cons z t =>
    by_cases h8 : 128 ≤ z
    · rw [body_hi h h8, low_zero _ k hk]
    · rw [body_lo h h8]
theorem strip_len : ∀ ns : List Int, (strip ns).length ≤ ns.length
  | [] => by simp [strip]
  | z :: t => by
    unfold strip
    split
    · have := strip_len t; simp; omega
    · simp
theorem body_len (ns : List Int) : (body ns).length ≤ ns.length + 1 := by
  have := strip_len ns
  cases h : strip ns with
  | nil => rw [body_nil h]; simp
  | cons z t =>
    rw [h] at this
    simp at this
    by_cases h8 : 128 ≤ z
    · rw [body_hi h h8]; simp; omega
    · rw [body_lo h h8]; simp; omega
theorem strip_byt : ∀ ns : List Int, Byt ns → Byt (strip ns)
  | [], _ => by intro z hz; simp [strip] at hz
  | z :: t, h => by
    unfold strip
    split
    · exact strip_byt t (fun y hy => h y (by simp [hy]))
    · exact h
theorem body_byt (ns : List Int) (h : Byt ns) : Byt (body ns) := by
  have h' := strip_byt ns h
  cases hs : strip ns with
  | nil => rw [body_nil hs]; intro z hz; simp at hz
  | cons z t =>
    rw [hs] at h'
    by_cases h8 : 128 ≤ z
    · rw [body_hi hs h8]
      intro y hy
      rcases List.mem_cons.1 hy with rfl | hy
      · exact ⟨by omega, by omega⟩
      · exact h' y hy
    · rw [body_lo hs h8]; exact h'

/-! the memory -/
theorem Owns.shape {w : World} {base : Nat} {v : Value} {xs : List Int} (h : Owns w base v xs) (hp : 0 < xs.length) :
    ∃ g cap, v = .slice (some ⟨g, 0, none⟩) xs.length cap ∧ xs.length ≤ cap ∧ cap ≤ 9223372036854775807 ∧ Rd w w.heap.size (some ⟨g, 0, none⟩) xs := by
  rcases h.2 with ⟨_, h0⟩ | ⟨g, cap, cur, rfl, hb, hg, hnc, hcm, _⟩
  · omega
  · refine ⟨g, cap, rfl, hnc, by unfold maxLen at hcm; omega, .inr ⟨g, 0, rfl, (Array.getElem?_eq_some_iff.1 hg).1, fun j z hj => ?_⟩⟩
    have hj' : j < xs.length := (List.getElem?_eq_some_iff.1 hj).1
    have := World.ownsRow.cellAt h j (by omega)
    rw [Nat.zero_add, this]
    simp [cellsOf, hj]

theorem copy_run (base g : Nat) (ns : List Int) (ad : Addr) (c : Nat) (zs : List Value) (w1 : World) (hown : w1.ownsRow base 5 1 (.slice (some ⟨g, 0, none⟩) ns.length ns.length) ns.length zs)
    (hr : ∀ j u, (cellsOf ns)[j]? = some u → w1.cell? (ad.add j) = some u) :
    ∃ w2, (∀ ty, (Builtin.copy_ #[22, 22] ty #[.slice (some ⟨g, 0, none⟩) ns.length ns.length, .slice (some ad) ns.length c]).run Try.prog w1 = .ok (.int .i64 ns.length) w2) ∧
      Owns w2 base (.slice (some ⟨g, 0, none⟩) ns.length ns.length) ns ∧ Below base w1 w2 := by
  rcases hown.2 with ⟨h', _⟩ | ⟨g', cap, cur, h', hb, hg, hnc, hcm, hcs, htake⟩
  · simp at h'
  simp only [Value.slice.injEq, Option.some.injEq, Addr.mk.injEq, and_true, true_and] at h'
  obtain ⟨rfl, rfl⟩ := h'
  refine ⟨w1.setRow g (cur.toList.take 0 ++ cellsOf ns ++ cur.toList.drop (0 + (cellsOf ns).length)).toArray, fun ty => ?_, ?_, ?_⟩
  · have := run_copy_row (P := Try.prog) w1 22 22 ty 5 g 0 ns.length ns.length ad ns.length c cur 5 (cellsOf ns) Try.underlying22 (by kernel_rfl) hg (by rw [cellsOf_length]; exact (Nat.min_self _).symm) hr (by rw [cellsOf_length]; omega) (cellsOf_one ns)
    rw [this, cellsOf_length]
    rfl
  · refine ⟨by rw [cellsOf_length]; omega, .inr ⟨g, ns.length, _, rfl, hb, setRow_heap w1 g cur _ 5 (0, 0) hg, hnc, hcm, ?_, ?_⟩⟩
    · simp [cellsOf_length]; omega
    · simp only [List.take_zero, List.nil_append, Nat.zero_add]
      rw [List.take_append_of_le_length (by rw [cellsOf_length]; omega)]
      exact List.take_of_length_le (by rw [cellsOf_length]; omega)
  · exact ⟨rfl, rfl, rfl, by simp [World.setRow], fun k hk => setRow_other w1 g k _ (by omega)⟩

theorem Rd_drop {w : World} {B g c k : Nat} {xs : List Int} (h : Rd w B (some ⟨g, 0, none⟩) xs) (hl : xs.length ≤ c) :
    Rd w B (if c = k then some ⟨g, 0, none⟩ else some ⟨g, k, none⟩) (xs.drop k) := by
  rcases h with rfl | ⟨g', off, h1, hg, hc⟩
  · left; simp
  · simp only [Option.some.injEq, Addr.mk.injEq, and_true] at h1
    obtain ⟨rfl, rfl⟩ := h1
    by_cases hck : c = k
    · left; exact List.drop_of_length_le (by omega)
    · rw [if_neg hck]
      refine .inr ⟨g, k, rfl, hg, fun j z hj => ?_⟩
      rw [List.getElem?_drop] at hj
      have := hc (k + j) z hj
      rw [Nat.zero_add] at this
      exact this

theorem b13_ok (a0 a1 : Option Addr) (n m c0 c1 : Nat) (w : World) (h : n + m ≤ 1048576) :
    Calls Try.prog 13 #[.slice a0 n c0, .slice a1 m c1] w fun e w' => e = .returned (.bool true) ∧ w = w' := by
  have h1 : ¬ (1048576 : Int) < n := by omega
  have h2 : ¬ (1048576 : Int) < m := by omega
  have h3 : ¬ (1048576 : Int) < n + m := by omega
  go_enter Try.func13, Try.ntmps13
  go_wp2
  go_ret
  exact ⟨rfl, rfl⟩
theorem b13_no (a0 a1 : Option Addr) (n m c0 c1 : Nat) (w : World) (hn : n ≤ maxLen) (hm : m ≤ maxLen) (h : 1048576 < n + m) :
    Calls Try.prog 13 #[.slice a0 n c0, .slice a1 m c1] w fun e w' => e = .returned (.bool false) ∧ w = w' := by
  unfold maxLen at hn hm
  by_cases h1 : (1048576 : Int) < n
  · go_enter Try.func13, Try.ntmps13
    go_wp2
    go_ret
    exact ⟨rfl, rfl⟩
  by_cases h2 : (1048576 : Int) < m
  · go_enter Try.func13, Try.ntmps13
    go_wp2
    go_ret
    exact ⟨rfl, rfl⟩
  have h3 : (1048576 : Int) < n + m := by omega
  go_enter Try.func13, Try.ntmps13
  go_wp2
  go_ret
  exact ⟨rfl, rfl⟩
end Go.Proofs.Qxb6628551a

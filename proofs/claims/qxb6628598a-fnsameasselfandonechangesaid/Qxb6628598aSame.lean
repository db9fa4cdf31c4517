import Derived.Test.Qxb6628598aBuild
import Derived.Deep.LoopGhost
namespace Go.Proofs.Qxb6628598a
open Go.ChangeShapes Go.WideShapes Go.ChangeAt Go.RowKit

theorem equal_quiet (xs ys : List Int) (u v : Value) (B n k : Nat) (b : Bool) (w : World) (hn : xs.length ≤ 1073741824) (h1 : SlcAt w B u xs) (h2 : SlcAt w B v ys) (hb : decide (xs = ys) = b) :
    Calls Try.prog 14 #[u, v] (w.drewN (n + k)) fun e w' => e = .returned (.bool b) ∧ ∃ m, w' = w.drewN (n + m) := by
  refine (equal_any xs ys u v B B _ hn (h1.later (below_drewN (Below.refl B w) _) (Nat.le_refl _) (Nat.le_refl _)) (h2.later (below_drewN (Below.refl B w) _) (Nat.le_refl _) (Nat.le_refl _))).mono ?_
  rintro e w' ⟨rfl, m, rfl⟩
  exact ⟨by rw [hb], k + m, by rw [World.drewN_drewN, Nat.add_assoc]⟩

theorem bool_ne {a b : Bool} (h : ¬ a = b) : (a = true ∧ b = false) ∨ (a = false ∧ b = true) := by
  cases a <;> cases b <;> simp_all
theorem beq_bytes (a b : ByteArray) : (a.toList == b.toList) = decide (a = b) := by
  rw [ByteArray.toList_eq, ByteArray.toList_eq, Bool.eq_iff_iff, beq_iff_eq, decide_eq_true_eq]
  constructor
  · intro h
    obtain ⟨⟨l⟩⟩ := a
    obtain ⟨⟨m⟩⟩ := b
    simpa using h
  · intro h; rw [h]

set_option maxRecDepth 100000 in
set_option maxHeartbeats 4000000 in
theorem same_any (ls ms : List Lvl) (p q : Option Addr) (B : Nat) (w : World) (hp : Chain w B (.pointer p) ls) (hq : Chain w B (.pointer q) ms) (hn : ∀ l ∈ ls, l.1.length ≤ 1073741824) :
    Calls Try.prog 9 #[.pointer p, .pointer q] w fun e w' => e = .returned (.bool (decide (ls = ms))) ∧ ∃ n, w' = w.drewN n := by
  have H1 : Hid (Chain w B (.pointer p) ls) := hp
  have H2 : Hid (Chain w B (.pointer q) ms) := hq
  have HN : Hid (∀ l ∈ ls, l.1.length ≤ 1073741824) := hn
  clear hp hq hn
  go_enter Try.func9, Try.ntmps9
  go_wp2_with fail
  go_loopg [0, 1] ls.length (fun k s o wr => ∃ (p q : Option Addr) (ls' ms' : List Lvl) (n : Nat), s = .pointer p ∧ o = .pointer q ∧ Hid (k = ls'.length) ∧ Hid (Chain w B (.pointer p) ls') ∧ Hid (Chain w B (.pointer q) ms') ∧ wr = w.drewN n ∧ Hid (∀ l ∈ ls', l.1.length ≤ 1073741824) ∧ Hid (decide (ls' = ms') = decide (ls = ms)))
  case atStart => exact ⟨p, q, ls, ms, 0, rfl, rfl, rfl, H1, H2, rfl, HN, rfl⟩
  case round =>
    obtain ⟨p, q, ls', ms', n, rfl, rfl, hk, hp, hq, rfl, hN, hD⟩ := hrel
    clear H1 H2 HN
    cases ls' with
    | nil =>
      obtain rfl : p = none := by have := hp.out; simpa [Chain] using this
      cases ms' with
      | nil =>
        obtain rfl : q = none := by have := hq.out; simpa [Chain] using this
        have HD2 : Hid (decide (ls = ms) = true) := by show _ = _; rw [← hD.out]; rfl
        clear hp hq hD
        go_wp2_with fail
        go_ret
        exact ⟨by rw [HD2.out]; rfl, n, rfl⟩
      | cons m mt =>
        obtain ⟨g', q2, sv', hq2, _⟩ := hq.out
        injection hq2 with hq2
        subst hq2
        have HD2 : Hid (decide (ls = ms) = false) := by show _ = _; rw [← hD.out]; rfl
        clear hp hq hD
        go_wp2_with fail
        go_ret
        exact ⟨by rw [HD2.out]; rfl, n, rfl⟩
    | cons l lt =>
      obtain ⟨g, p2, sv, hp2, _, hs1, a0, a1, a2, a3, a4, a5, a6, hpt⟩ := hp.out
      injection hp2 with hp2
      subst hp2
      cases ms' with
      | nil =>
        obtain rfl : q = none := by have := hq.out; simpa [Chain] using this
        have HD2 : Hid (decide (ls = ms) = false) := by show _ = _; rw [← hD.out]; rfl
        clear hp hq hD hs1 a0 a1 a2 a3 a4 a5 a6 hpt
        go_wp2_with fail
        go_ret
        exact ⟨by rw [HD2.out]; rfl, n, rfl⟩
      | cons m mt =>
        obtain ⟨g', q2, sv', hq2, _, hs2, b0, b1, b2, b3, b4, b5, b6, hqt⟩ := hq.out
        injection hq2 with hq2
        subst hq2
        obtain ⟨p3, rfl⟩ := hpt.ptr
        obtain ⟨q3, rfl⟩ := hqt.ptr
        have HP : Hid (Chain w B (.pointer p3) lt) := hpt
        have HQ : Hid (Chain w B (.pointer q3) mt) := hqt
        have HNt : Hid (∀ l ∈ lt, l.1.length ≤ 1073741824) := fun x hx => hN.out x (by simp [hx])
        have HS1 : Hid (SlcAt w B sv l.1) := hs1
        have HS2 : Hid (SlcAt w B sv' m.1) := hs2
        have HL : Hid (l.1.length ≤ 1073741824) := hN.out l (by simp)
        have HK : Hid (lt.length < gk) := by show _ < _; rw [hk.out]; simp
        clear hs1 hs2 hp hq hpt hqt hN hk
        obtain ⟨i1, x1, x2, x3, x4, x5⟩ := l
        obtain ⟨i2, y1, y2, y3, y4, y5⟩ := m
        simp only at HS1 HS2 HL a1 a3 a4 a5 a6 b1 b3 b4 b5 b6
        by_cases e0 : i1 = i2
        · subst e0
          by_cases e1 : x1 = y1
          · subst e1
            by_cases e2 : x2 = y2
            · subst e2
              by_cases e3 : x3 = y3
              · subst e3
                by_cases e4 : x4 = y4
                · subst e4
                  by_cases e5 : x5 = y5
                  · subst e5
                    have HD2 : Hid (decide (lt = mt) = decide (ls = ms)) := by show _ = _; rw [← hD.out]; simp
                    have HE : ∀ k, Hid (Calls Try.prog 14 #[sv, sv'] (w.drewN (n + k)) fun e w' => e = .returned (.bool true) ∧ ∃ m, w' = w.drewN (n + m)) := fun k => equal_quiet _ _ _ _ B n k _ w HL.out HS1.out HS2.out (by simp)
                    clear hD HS1 HS2 HL
                    go_wp2_with fail
                    simp only [List.append_eq, List.cons_append, List.nil_append]
                    go_quiet ((go_at_call 14; exact (HE _).out))
                    go_wp2_with fail
                    go_quiet (fail)
                    go_wp2_with fail
                    go_roundg lt.length
                    case measure => exact HK.out
                    case rel => exact ⟨p3, q3, lt, mt, _, rfl, rfl, rfl, HP, HQ, (by rw [World.drewN_drewN, World.drewN_drewN]), HNt, HD2⟩
                  · have f5 : (x5 != y5) = true := by simpa using e5
                    have HD2 : Hid (decide (ls = ms) = false) := by show _ = _; rw [← hD.out]; exact decide_eq_false (fun h => by injection h with h _; simp only [Prod.mk.injEq] at h; exact e5 (by simp only [h]))
                    have HE : ∀ k, Hid (Calls Try.prog 14 #[sv, sv'] (w.drewN (n + k)) fun e w' => e = .returned (.bool true) ∧ ∃ m, w' = w.drewN (n + m)) := fun k => equal_quiet _ _ _ _ B n k _ w HL.out HS1.out HS2.out (by simp)
                    clear hD HP HQ HNt HS1 HS2 HL HK a2 b2 e5
                    go_wp2_with fail
                    simp only [List.append_eq, List.cons_append, List.nil_append]
                    go_quiet ((go_at_call 14; exact (HE _).out))
                    go_wp2_with fail
                    go_ret
                    exact ⟨by rw [HD2.out]; rfl, _, World.drewN_drewN ..⟩
                · have f4 : (x4.toList == y4.toList) = false := by rw [beq_bytes]; simpa using e4
                  have HD2 : Hid (decide (ls = ms) = false) := by show _ = _; rw [← hD.out]; exact decide_eq_false (fun h => by injection h with h _; simp only [Prod.mk.injEq] at h; exact e4 (by simp only [h]))
                  have HE : ∀ k, Hid (Calls Try.prog 14 #[sv, sv'] (w.drewN (n + k)) fun e w' => e = .returned (.bool true) ∧ ∃ m, w' = w.drewN (n + m)) := fun k => equal_quiet _ _ _ _ B n k _ w HL.out HS1.out HS2.out (by simp)
                  clear hD HP HQ HNt HS1 HS2 HL HK a2 b2 e4
                  go_wp2_with fail
                  simp only [List.append_eq, List.cons_append, List.nil_append]
                  go_quiet ((go_at_call 14; exact (HE _).out))
                  go_wp2_with fail
                  go_ret
                  exact ⟨by rw [HD2.out]; rfl, _, World.drewN_drewN ..⟩
              · rcases bool_ne e3 with ⟨rfl, rfl⟩ | ⟨rfl, rfl⟩
                all_goals
                  have HD2 : Hid (decide (ls = ms) = false) := by show _ = _; rw [← hD.out]; exact decide_eq_false (fun h => by injection h with h _; simp only [Prod.mk.injEq] at h; exact e3 (by simp only [h]))
                  have HE : ∀ k, Hid (Calls Try.prog 14 #[sv, sv'] (w.drewN (n + k)) fun e w' => e = .returned (.bool true) ∧ ∃ m, w' = w.drewN (n + m)) := fun k => equal_quiet _ _ _ _ B n k _ w HL.out HS1.out HS2.out (by simp)
                  clear hD HP HQ HNt HS1 HS2 HL HK a2 b2 e3
                  go_wp2_with fail
                  simp only [List.append_eq, List.cons_append, List.nil_append]
                  go_quiet ((go_at_call 14; exact (HE _).out))
                  go_wp2_with fail
                  go_ret
                  exact ⟨by rw [HD2.out]; rfl, _, World.drewN_drewN ..⟩
            · have f2 : (x2 != y2) = true := by simpa using e2
              have HD2 : Hid (decide (ls = ms) = false) := by show _ = _; rw [← hD.out]; exact decide_eq_false (fun h => by injection h with h _; simp only [Prod.mk.injEq] at h; exact e2 (by simp only [h]))
              have HE : ∀ k, Hid (Calls Try.prog 14 #[sv, sv'] (w.drewN (n + k)) fun e w' => e = .returned (.bool true) ∧ ∃ m, w' = w.drewN (n + m)) := fun k => equal_quiet _ _ _ _ B n k _ w HL.out HS1.out HS2.out (by simp)
              clear hD HP HQ HNt HS1 HS2 HL HK a2 b2 e2
              go_wp2_with fail
              simp only [List.append_eq, List.cons_append, List.nil_append]
              go_quiet ((go_at_call 14; exact (HE _).out))
              go_wp2_with fail
              go_ret
              exact ⟨by rw [HD2.out]; rfl, _, World.drewN_drewN ..⟩
          · rcases bool_ne e1 with ⟨rfl, rfl⟩ | ⟨rfl, rfl⟩
            all_goals
              have HD2 : Hid (decide (ls = ms) = false) := by show _ = _; rw [← hD.out]; exact decide_eq_false (fun h => by injection h with h _; simp only [Prod.mk.injEq] at h; exact e1 (by simp only [h]))
              have HE : ∀ k, Hid (Calls Try.prog 14 #[sv, sv'] (w.drewN (n + k)) fun e w' => e = .returned (.bool true) ∧ ∃ m, w' = w.drewN (n + m)) := fun k => equal_quiet _ _ _ _ B n k _ w HL.out HS1.out HS2.out (by simp)
              clear hD HP HQ HNt HS1 HS2 HL HK a2 b2 e1
              go_wp2_with fail
              simp only [List.append_eq, List.cons_append, List.nil_append]
              go_quiet ((go_at_call 14; exact (HE _).out))
              go_wp2_with fail
              go_ret
              exact ⟨by rw [HD2.out]; rfl, _, World.drewN_drewN ..⟩
        · have HD2 : Hid (decide (ls = ms) = false) := by show _ = _; rw [← hD.out]; exact decide_eq_false (fun h => by injection h with h _; simp only [Prod.mk.injEq] at h; exact e0 (by simp only [h]))
          have HE : ∀ k, Hid (Calls Try.prog 14 #[sv, sv'] (w.drewN (n + k)) fun e w' => e = .returned (.bool false) ∧ ∃ m, w' = w.drewN (n + m)) := fun k => equal_quiet _ _ _ _ B n k _ w HL.out HS1.out HS2.out (by simp [e0])
          clear hD HP HQ HNt HS1 HS2 HL HK a2 b2 e0
          go_wp2_with fail
          simp only [List.append_eq, List.cons_append, List.nil_append]
          go_quiet ((go_at_call 14; exact (HE _).out))
          go_wp2_with fail
          go_ret
          exact ⟨by rw [HD2.out]; rfl, _, World.drewN_drewN ..⟩
end Go.Proofs.Qxb6628598a

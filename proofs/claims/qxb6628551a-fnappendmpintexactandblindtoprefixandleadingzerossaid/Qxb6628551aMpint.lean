import Derived.Test.Qxb6628551aBase
namespace Go.Proofs.Qxb6628551a
open Go.ChangeShapes Go.WideShapes Go.ChangeAt Go.RowKit

def strip : List Int → List Int
  | [] => []
  | z :: t => if z = 0 then strip t else z :: t
def body (ns : List Int) : List Int :=
  match strip ns with
  | [] => []
  | z :: t => if 128 ≤ z then 0 :: z :: t else z :: t
def Byt (xs : List Int) : Prop := ∀ z ∈ xs, 0 ≤ z ∧ z ≤ 255
def lenOf : Value → Nat | .slice _ n _ => n | _ => 0

theorem top_bit (z : Int) (h0 : 0 ≤ z) (h1 : z ≤ 255) : (bits BinOp.and IntKind.u8 z 128 != 0) = decide (128 ≤ z) := by
  have key : ∀ n : Fin 256, (bits BinOp.and IntKind.u8 (n.val : Int) 128 != 0) = decide (128 ≤ (n.val : Int)) := by decide +kernel
  obtain ⟨n, rfl⟩ := Int.eq_ofNat_of_zero_le h0
  exact key ⟨n, by omega⟩

theorem Rd_tail {w : World} {B g off c : Nat} {z : Int} {t : List Int} (hg : g < B) (hl : t.length + 1 ≤ c) (h : ∀ j y, (z :: t)[j]? = some y → w.cell? ⟨g, off + j, none⟩ = some (.int .u8 y)) :
    Rd w B (if c = 1 then some ⟨g, off, none⟩ else some ⟨g, off + 1, none⟩) t := by
  by_cases hc : c = 1
  · left; exact List.eq_nil_of_length_eq_zero (by omega)
  · rw [if_neg hc]
    exact .inr ⟨g, off + 1, rfl, hg, fun j y hj => by rw [Nat.add_assoc, Nat.add_comm 1 j]; exact h (j + 1) y (by simpa using hj)⟩

theorem one_at (W : World) (x : Value) (e : TypeId) (b : Nat) (hb : b = W.heap.size) : ∀ ad, some (⟨b, 0, none⟩ : Addr) = some ad → ∀ j u, [x][j]? = some u → (W.alloc (.cells #[x] e)).cell? (ad.add j) = some u := by
  subst hb
  intro ad had j u hu
  obtain rfl := Option.some.inj had
  match j, hu with
  | 0, hu => simp at hu; subst hu; simp [Addr.add_lit]
  | j + 1, hu => simp at hu

set_option maxHeartbeats 1000000 in
theorem mpint_any (base : Nat) (v : Value) (xs : List Int) (ao : Option Addr) (c : Nat) (ns : List Int) (w : World) (hown : Owns w base v xs) (hb : base ≤ w.heap.size)
    (hr : Rd w base ao ns) (hc : ao = none → c = 0) (hlc : ns.length ≤ c) (hcm : c ≤ maxLen) (hB : Byt ns) (hn : xs.length ≤ 1048576) (hm : ns.length ≤ 1048576) :
    Calls Try.prog 7 #[v, .slice ao ns.length c] w fun e w' => ∃ v', e = .returned v' ∧ Owns w' base v' (xs ++ be32 (body ns).length ++ body ns) ∧ Below base w w' := by
  unfold maxLen at hcm
  have HO : Hid (Owns w base v xs) := hown
  clear hown
  go_enter Try.func7, Try.ntmps7
  go_wp2_with fail
  go_loop [1] (fun s => ∃ ao' c' ns', s = .slice ao' ns'.length c' ∧ Hid (Rd w base ao' ns') ∧ Hid (ao' = none → c' = 0) ∧ ns'.length ≤ c' ∧ c' ≤ 9223372036854775807 ∧ ns'.length ≤ 1048576 ∧ Hid (Byt ns') ∧ Hid (strip ns' = strip ns)) (fun s => lenOf s)
  case atStart => exact ⟨ao, c, ns, rfl, hr, hc, hlc, by omega, hm, hB, rfl⟩
  case round =>
    obtain ⟨ao', c', ns', rfl, hR, hC, hL, hM, hK, hY, hS⟩ := hrel
    cases ns' with
    | nil =>
      have HE : Hid (body ns = []) := by show _ = _; unfold body; rw [← hS.out]; rfl
      simp only [List.length_nil]
      go_wp2_with fail
      refine (string_any base v xs ao' c' [] _ HO.out hb hR.out hC.out (by omega) (by simp)).mono ?_
      rintro e w1 ⟨v1, rfl, hv⟩
      have HV : Hid (Owns w1 base v1 (xs ++ be32 (body ns).length ++ body ns) ∧ Below base w w1) := by rw [HE.out]; exact hv
      clear hv
      go_wp2_with fail
      go_ret
      exact ⟨v1, rfl, HV.out⟩
    | cons z t =>
      rcases hR.out with h | ⟨g, off, rfl, hg, hcell⟩
      · cases h
      have h0 := hcell 0 z rfl
      have hz := hY.out z (by simp)
      simp only [Nat.add_zero] at h0
      have HH : Hid (∀ j y, (z :: t)[j]? = some y → w.cell? ⟨g, off + j, none⟩ = some (.int .u8 y)) := hcell
      clear hcell
      by_cases hz0 : z = 0
      · subst hz0
        have HS2 : Hid (strip t = strip ns) := by show _ = _; rw [← hS.out]; simp [strip]
        have HY2 : Hid (Byt t) := fun y hy => hY.out y (by simp [hy])
        have HN : ∀ p q : Addr, (if c' = 1 then some p else some q) = none → c' - 1 = 0 := by intro p q h; split at h <;> cases h
        clear hS hY hC hR
        simp only [List.length_cons] at *
        go_wp2_with fail
        go_round
        case rel => exact ⟨_, _, t, rfl, Rd_tail hg hL HH.out, HN _ _, by omega, by omega, by omega, HY2, HS2⟩
        case measure => simp [lenOf]
      · have hz0' : (z == 0) = false := by simpa using hz0
        have hz1 := hz.1
        have hz2 := hz.2
        by_cases hz8 : 128 ≤ z
        · have hbit : (bits BinOp.and IntKind.u8 z 128 != 0) = true := by rw [top_bit z hz1 hz2]; simpa using hz8
          have HE : Hid (body ns = 0 :: z :: t) := by show _ = _; unfold body; rw [← hS.out]; simp [strip, hz0, hz8]
          clear hS hz0 hz
          simp only [List.length_cons] at *
          go_wp2_with fail
          refine (be15_any base v xs _ _ (by omega) (by omega) HO.out hb (by omega)).mono ?_
          rintro e w1 ⟨v1, rfl, hv, hbel⟩
          have H1 : Hid (Owns w1 base v1 (xs ++ be32 (t.length + 1 + 1))) := hv
          have H2 : Hid (Below base w w1) := hbel
          have hz : base ≤ w1.heap.size := Nat.le_trans hb hbel.size
          clear hv hbel h0
          go_wp2_with (first
            | (at_builtin; refine wpList_append_src rfl (.tmp 32) (.tmp 33) rfl base v1 (xs ++ be32 (t.length + 1 + 1)) rfl (H1.out.alloc _) (some ⟨w1.heap.size, 0, none⟩) 1 [0] rfl (by intro h; cases h) (by exact one_at _ _ 5 _ (by simp)) (by simp [be32]; omega) (by simp; omega) ?_; intro v2 w2 hv hw
               have H3 : Hid (Owns w2 base v2 (xs ++ be32 (t.length + 1 + 1) ++ [0])) := hv
               have H4 : Hid (Below base w w2) := (H2.out.alloc hz _).trans hw
               have hz2 : base ≤ w2.heap.size := Nat.le_trans hb H4.out.size
               have H5 : Hid (Rd w2 base (some ⟨g, off, none⟩) (z :: t)) := Rd.later (.inr ⟨g, off, rfl, hg, HH.out⟩) H4.out (Nat.le_refl _)
               clear hv hw)
            | (at_builtin; refine wpList_append_src rfl (.tmp 35) (.tmp 36) rfl base v2 (xs ++ be32 (t.length + 1 + 1) ++ [0]) rfl H3.out (some ⟨g, off, none⟩) c' (z :: t) rfl (by intro h; cases h) H5.out.news (by simp [be32]; omega) hz2 ?_; intro v3 w3 hv hw))
          have HV : Hid (Owns w3 base v3 (xs ++ be32 (body ns).length ++ body ns) ∧ Below base w w3) := by
            rw [HE.out]
            refine ⟨?_, H4.out.trans hw⟩
            have e : xs ++ be32 ((0 :: z :: t).length : Nat) ++ (0 :: z :: t) = xs ++ be32 (t.length + 1 + 1) ++ [0] ++ (z :: t) := by
              rw [List.append_assoc _ [0]]; rfl
            rw [e]; exact hv
          clear hv hw
          go_ret
          exact ⟨v3, rfl, HV.out⟩
        · have hbit : (bits BinOp.and IntKind.u8 z 128 != 0) = false := by rw [top_bit z hz1 hz2]; simpa using hz8
          have HE : Hid (body ns = z :: t) := by show _ = _; unfold body; rw [← hS.out]; simp [strip, hz0, hz8]
          clear hS hz0 hz
          simp only [List.length_cons] at *
          go_wp2_with fail
          refine (string_any base v xs (some ⟨g, off, none⟩) c' (z :: t) _ HO.out hb hR.out hC.out (by omega) (by simp; omega)).mono ?_
          rintro e w1 ⟨v1, rfl, hv⟩
          have HV : Hid (Owns w1 base v1 (xs ++ be32 (body ns).length ++ body ns) ∧ Below base w w1) := by rw [HE.out]; exact hv
          clear hv
          go_wp2_with fail
          go_ret
          exact ⟨v1, rfl, HV.out⟩
end Go.Proofs.Qxb6628551a

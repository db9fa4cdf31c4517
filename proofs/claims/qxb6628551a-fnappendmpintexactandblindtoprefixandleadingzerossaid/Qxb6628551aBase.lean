import Derived.Test.Qxb6628551aRows
import Derived.WalkKit
import Derived.WalkLawsBesides
import Derived.WalkSpells
import Derived.ProofKit
import Derived.LoopN
import Derived.Laws.AppendOwnNone
namespace Go.Proofs.Qxb6628551a
open Go.ChangeShapes Go.WideShapes Go.ChangeAt Go.RowKit

theorem Try.info5 : (Try.prog.info? 5).map (fun i => (i.zero, i.size, i.bytes)) = some (some (.int .u8 0), 1, 1) := by kernel_rfl

/-- bytes as cells -/
def cellsOf (xs : List Int) : List Value := xs.map (Value.int .u8)
theorem cellsOf_length (xs : List Int) : (cellsOf xs).length = xs.length := by simp [cellsOf]
theorem cellsOf_one (xs : List Int) : ∀ u ∈ cellsOf xs, u.oneCell' = true := ints_oneCell .u8 xs
theorem cellsOf_append (xs ys : List Int) : cellsOf (xs ++ ys) = cellsOf xs ++ cellsOf ys := by simp [cellsOf]

/-- the row of bytes xs, owned from 'base' on -/
def Owns (w : World) (base : Nat) (v : Value) (xs : List Int) : Prop := w.ownsRow base 5 1 v xs.length (cellsOf xs)

theorem Owns.alloc {w : World} {base : Nat} {v : Value} {xs : List Int} (h : Owns w base v xs) (o : Obj) : Owns (w.alloc o) base v xs := World.ownsRow.alloc h o

/-- 'append(v, x...)', v the call's own row, x whatever slice of bytes: one law for the walk. -/
theorem wpList_append_src {w : World} {ops : Array Oper} {rest : List Oper} {o : Oper} {a : Act} {Q : Exit → Act → World → Prop} (hgd : o.guard = none) (s x : Operand)
    (ho : o.op = .call { callee := .builtin .append, args := #[s, x], argTypes := #[22, 22] })
    (base : Nat) (v : Value) (xs : List Int) (hs : a.eval s = v) (hown : Owns w base v xs)
    (ao : Option Addr) (c : Nat) (news : List Int) (hx : a.eval x = .slice ao news.length c) (hc : ao = none → news = [] ∧ c = 0)
    (hnews : ∀ ad, ao = some ad → ∀ j u, (cellsOf news)[j]? = some u → w.cell? (ad.add j) = some u)
    (h63 : xs.length + news.length ≤ 4294967296) (hbase : base ≤ w.heap.size)
    (h : ∀ v' w', Owns w' base v' (xs ++ news) → Below base w w' → wpList Try.prog ops Q rest (a.put o.dst v') w') : wpList Try.prog ops Q (o :: rest) a w := by
  obtain ⟨i0, hi, hz0, hz1, hz2⟩ := info_parts Try.info5
  cases ao with
  | none =>
    obtain ⟨rfl, rfl⟩ := hc rfl
    refine wpList_append_own_none hgd s x 22 ho base 5 i0 1 Try.underlying22 hi v xs.length (cellsOf xs) hs hown hx ?_
    exact h v w (by rw [List.append_nil]; exact hown) (Below.refl _ _)
  | some ad =>
    refine wpList_append_own w hgd s x 22 ho base 5 i0 (.int .u8 0) 1 1 Try.underlying22 hi hz0 hz1 hz2 rfl (by decide) v xs.length (cellsOf xs) hs hown ad news.length c (cellsOf news) hx (by rw [cellsOf_length]; omega) (hnews ad rfl) (cellsOf_one news) (by unfold maxLen; omega) (by omega) hbase ?_
    intro v' w' ho' hg' _
    refine h v' w' ?_ ((Below.refl _ _).grown hg' hbase (fun k hk => (hown.lt k hk).1))
    unfold Owns
    rw [cellsOf_append, List.length_append]
    exact ho'

theorem four_at (W : World) (x y z t : Value) (e : TypeId) (b : Nat) (hb : b = W.heap.size) : ∀ ad, some (⟨b, 0, none⟩ : Addr) = some ad → ∀ j u, [x, y, z, t][j]? = some u → (W.alloc (.cells #[x, y, z, t] e)).cell? (ad.add j) = some u := by
  subst hb
  intro ad had j u hu
  obtain rfl := Option.some.inj had
  match j, hu with
  | 0, hu => simp at hu; subst hu; simp [Addr.add_lit]
  | 1, hu => simp at hu; subst hu; simp [Addr.add_lit]
  | 2, hu => simp at hu; subst hu; simp [Addr.add_lit]
  | 3, hu => simp at hu; subst hu; simp [Addr.add_lit]
  | j + 4, hu => simp at hu

def be32 (u : Int) : List Int := [u / 16777216, u / 65536 % 256, u / 256 % 256, u % 256]

set_option maxHeartbeats 1000000 in
theorem be16_any (base : Nat) (v : Value) (xs : List Int) (u : Int) (w : World) (h0 : 0 ≤ u) (h1 : u ≤ 4294967295) (hown : Owns w base v xs) (hb : base ≤ w.heap.size) (hn : xs.length ≤ 1073741824) :
    Calls Try.prog 16 #[.agg #[], v, .int .u32 u] w fun e w' => ∃ v', e = .returned v' ∧ Owns w' base v' (xs ++ be32 u) ∧ Below base w w' := by
  go_enter Try.func16, Try.ntmps16
  go_wp2_with (at_builtin; refine wpList_append_src rfl _ _ rfl base v xs rfl ((hown.alloc _).alloc _) (some ⟨w.heap.size + 1, 0, none⟩) 4 (be32 u) rfl (by intro h; cases h) (by exact four_at _ _ _ _ _ 5 _ (by simp)) (by simp [be32]; omega) (by simp; omega) ?_; intro v' w' hv hw)
  have HV : Hid (Owns w' base v' (xs ++ be32 u) ∧ Below base w w') := ⟨hv, ((((Below.refl _ _).alloc hb _).alloc (by simp; omega) _).trans hw)⟩
  clear hv hw
  go_wp2_with fail
  go_ret
  exact ⟨v', rfl, HV.out⟩

set_option maxHeartbeats 1000000 in
theorem be15_any (base : Nat) (v : Value) (xs : List Int) (u : Int) (w : World) (h0 : 0 ≤ u) (h1 : u ≤ 4294967295) (hown : Owns w base v xs) (hb : base ≤ w.heap.size) (hn : xs.length ≤ 1073741824) :
    Calls Try.prog 15 #[v, .int .u32 u] w fun e w' => ∃ v', e = .returned v' ∧ Owns w' base v' (xs ++ be32 u) ∧ Below base w w' := by
  go_enter Try.func15, Try.ntmps15
  go_wp2_with fail
  refine (be16_any base v xs u _ h0 h1 hown hb hn).mono ?_
  rintro e w' ⟨v', rfl, hv⟩
  have HV : Hid (Owns w' base v' (xs ++ be32 u) ∧ Below base w w') := hv
  clear hv hown
  go_wp2_with fail
  go_ret
  exact ⟨v', rfl, HV.out⟩

/-- A slice of bytes at 'ao' reads xs; its block lies below B. -/
def Rd (w : World) (B : Nat) (ao : Option Addr) (xs : List Int) : Prop :=
  xs = [] ∨ ∃ g off, ao = some ⟨g, off, none⟩ ∧ g < B ∧ ∀ j z, xs[j]? = some z → w.cell? ⟨g, off + j, none⟩ = some (.int .u8 z)

theorem Rd.later {w w' : World} {B C : Nat} {ao : Option Addr} {xs : List Int} (h : Rd w B ao xs) (hb : Below C w w') (hC : B ≤ C) : Rd w' B ao xs := by
  rcases h with h | ⟨g, off, ha, hg, hc⟩
  · exact .inl h
  · exact .inr ⟨g, off, ha, hg, fun j z hj => by rw [hb.cell (show g < _ by omega)]; exact hc j z hj⟩
theorem Rd.mono {w : World} {B C : Nat} {ao : Option Addr} {xs : List Int} (h : Rd w B ao xs) (hC : B ≤ C) : Rd w C ao xs := by
  rcases h with h | ⟨g, off, ha, hg, hc⟩
  · exact .inl h
  · exact .inr ⟨g, off, ha, by omega, hc⟩
theorem Rd.news {w : World} {B : Nat} {ao : Option Addr} {xs : List Int} (h : Rd w B ao xs) : ∀ ad, ao = some ad → ∀ j u, (cellsOf xs)[j]? = some u → w.cell? (ad.add j) = some u := by
  intro ad ha j u hu
  rcases h with rfl | ⟨g, off, h1, hg, hc⟩
  · simp [cellsOf] at hu
  · rw [h1] at ha
    obtain rfl := Option.some.inj ha
    rw [Addr.add_lit]
    simp only [cellsOf, List.getElem?_map, Option.map_eq_some_iff] at hu
    obtain ⟨z, hz, rfl⟩ := hu
    exact hc j z hz
theorem Rd.nil {w : World} {B : Nat} {ao : Option Addr} {xs : List Int} (h : Rd w B ao xs) (ha : ao = none) : xs = [] := by
  rcases h with h | ⟨g, off, h1, _⟩
  · exact h
  · rw [h1] at ha; cases ha

set_option maxHeartbeats 1000000 in
theorem string_any (base : Nat) (v : Value) (xs : List Int) (ao : Option Addr) (c : Nat) (news : List Int) (w : World) (hown : Owns w base v xs) (hb : base ≤ w.heap.size)
    (hr : Rd w base ao news) (hc : ao = none → c = 0) (hn : xs.length ≤ 1073741824) (hm : news.length ≤ 1073741824) :
    Calls Try.prog 14 #[v, .slice ao news.length c] w fun e w' => ∃ v', e = .returned v' ∧ Owns w' base v' (xs ++ be32 news.length ++ news) ∧ Below base w w' := by
  go_enter Try.func14, Try.ntmps14
  go_wp2_with fail
  refine (be15_any base v xs _ _ (by omega) (by omega) hown hb hn).mono ?_
  rintro e w1 ⟨v1, rfl, hv, hbel⟩
  have H1 : Hid (Owns w1 base v1 (xs ++ be32 news.length)) := hv
  have H2 : Hid (Below base w w1) := hbel
  have H3 : Hid (Rd w1 base ao news) := hr.later hbel (Nat.le_refl _)
  have hz : base ≤ w1.heap.size := Nat.le_trans hb hbel.size
  clear hv hbel hown hr
  go_wp2_with (at_builtin; refine wpList_append_src rfl _ _ rfl base v1 (xs ++ be32 news.length) rfl H1.out ao c news rfl (fun h => ⟨H3.out.nil h, hc h⟩) H3.out.news (by simp [be32]; omega) hz ?_; intro v2 w2 hv hw)
  have HV : Hid (Owns w2 base v2 (xs ++ be32 news.length ++ news) ∧ Below base w w2) := ⟨hv, H2.out.trans hw⟩
  clear hv hw
  go_wp2_with fail
  go_ret
  exact ⟨v2, rfl, HV.out⟩
end Go.Proofs.Qxb6628551a

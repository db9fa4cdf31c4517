import Derived.Test.Qxb6628598aBase
import Derived.ProofKit
import Derived.OpenShut
import Derived.Deep.Slices
namespace Go.Proofs.Qxb6628598a
open Go.ChangeShapes Go.WideShapes Go.ChangeAt Go.RowKit

section
variable {H : Type} {enc : TypeId × Value → H} {w : World} {base : Nat} {held : Bool}

/-- a slice of ints that is read: what the walk is told of it -/
theorem slc_of {fuel : Nat} {v : Value} {x : DataW H × List MemPlace} (h : DataW.trod enc Try.prog w base (fun _ => true) held fuel 31 [v] = some x) : ∃ xs, SlcAt w w.heap.size v xs := by
  rcases open_ints Try.underlying31 Try.underlying3 (by kernel_rfl) h with ⟨hcs, _⟩ | ⟨a, len, cap, zs, hcs, _, hl, hm, hz, _, hcell, _⟩
  · simp at hcs
    subst hcs
    exact ⟨[], none, 0, rfl, fun _ => rfl, .inl rfl⟩
  · simp at hcs
    subst hcs
    have hz' : zs.length = cap := by simpa using hz
    refine ⟨zs.take len, some a, cap, ?_, (fun e => by cases e), ?_⟩
    · rw [List.length_take, Nat.min_eq_left (by omega)]
    · by_cases h0 : len = 0
      · left; rw [h0]; rfl
      · obtain ⟨b, off, rfl, hc'⟩ := ints_at hcell (by omega)
        refine .inr ⟨b, off, rfl, World.block_lt_of_cell? w ⟨b, off + 0, none⟩ (hc' 0 (by omega)), fun j z hj => ?_⟩
        have hj' : j < len := by have := (List.getElem?_eq_some_iff.1 hj).1; rw [List.length_take] at this; omega
        rw [List.getElem?_take_of_lt hj'] at hj
        rw [hc' j (by omega), List.getD, hj]
        rfl

theorem lvl_of {n o g : Nat} {cs : List Value} {y : DataW H × List MemPlace} (hc : w.cells? base ⟨g, o, none⟩ 6 = some cs) (h : DataW.trod enc Try.prog w base (fun _ => true) held n 33 cs = some y) :
    ∃ l : Lvl, LvlAt w w.heap.size g o l := by
  obtain ⟨_, hlen, hcell⟩ := World.cells?_some hc
  obtain ⟨xs, m, _, _, _, hxl, hf⟩ := DataW.trod_struct Try.underlying33 h
  match cs, hlen, hcell, hf with
  | [x0, x1, x2, x3, x4, x5], _, hcell, hf =>
    have get : ∀ i, i < 6 → ∃ z, xs[i]? = some z := fun i hi => ⟨_, List.getElem?_eq_getElem (by rw [hxl]; exact hi)⟩
    have f0 := hf 0 { name := "Items", type := 31, offset := 0, embedded := false, tag := "", pkgPath := "", byteOffset := 0 } rfl
    have f1 := hf 1 { name := "Paragraph", type := 4, offset := 1, embedded := false, tag := "", pkgPath := "", byteOffset := 24 } rfl
    have f2 := hf 2 { name := "Bare", type := 3, offset := 2, embedded := false, tag := "", pkgPath := "", byteOffset := 32 } rfl
    have f3 := hf 3 { name := "Empty", type := 4, offset := 3, embedded := false, tag := "", pkgPath := "", byteOffset := 40 } rfl
    have f4 := hf 4 { name := "Fence", type := 9, offset := 4, embedded := false, tag := "", pkgPath := "", byteOffset := 48 } rfl
    have f5 := hf 5 { name := "HTML", type := 3, offset := 5, embedded := false, tag := "", pkgPath := "", byteOffset := 64 } rfl
    obtain ⟨z0, e0⟩ := get 0 (by omega)
    obtain ⟨z1, e1⟩ := get 1 (by omega)
    obtain ⟨z2, e2⟩ := get 2 (by omega)
    obtain ⟨z3, e3⟩ := get 3 (by omega)
    obtain ⟨z4, e4⟩ := get 4 (by omega)
    obtain ⟨z5, e5⟩ := get 5 (by omega)
    rw [e0] at f0; rw [e1] at f1; rw [e2] at f2; rw [e3] at f3; rw [e4] at f4; rw [e5] at f5
    have c31 : Try.prog.cellsOf 31 = 1 := by kernel_rfl
    have c4 : Try.prog.cellsOf 4 = 1 := by kernel_rfl
    have c3 : Try.prog.cellsOf 3 = 1 := by kernel_rfl
    have c9 : Try.prog.cellsOf 9 = 1 := by kernel_rfl
    simp only [c31, c4, c3, c9, List.drop_zero, List.drop_succ_cons, List.take_succ_cons, List.take_zero] at f0 f1 f2 f3 f4 f5
    obtain ⟨its, hits⟩ := slc_of f0
    obtain ⟨b1, e1', _⟩ := DataW.trod_bool Try.underlying4 f1
    obtain ⟨n2, e2', _⟩ := DataW.trod_int Try.underlying3 f2
    obtain ⟨b3, e3', _⟩ := DataW.trod_bool Try.underlying4 f3
    obtain ⟨s4, e4', _⟩ := DataW.trod_string Try.underlying9 f4
    obtain ⟨n5, e5', _⟩ := DataW.trod_int Try.underlying3 f5
    injection e1' with e1' _; injection e2' with e2' _; injection e3' with e3' _; injection e4' with e4' _; injection e5' with e5' _
    subst e1' e2' e3' e4' e5'
    have g0 := hcell 0 (by omega)
    have g1 := hcell 1 (by omega)
    have g2 := hcell 2 (by omega)
    have g3 := hcell 3 (by omega)
    have g4 := hcell 4 (by omega)
    have g5 := hcell 5 (by omega)
    simp only [add_plain] at g0 g1 g2 g3 g4 g5
    exact ⟨(its, b1, n2, b3, s4, n5), x0, hits, g0, g1, g2, g3, g4, g5⟩

theorem lvls_of {fuel : Nat} {v : Value} {x : DataW H × List MemPlace} (h : DataW.trod enc Try.prog w base (fun _ => true) held fuel 22 [v] = some x) :
    ∃ (ls : List Lvl) (ao : Option Addr) (c : Nat), v = .slice ao ls.length c ∧ (ao = none → c = 0) ∧ LvlsAt w w.heap.size ao ls := by
  rcases Go.Deep.open_slice Try.underlying22 h with ⟨hcs, _⟩ | ⟨a, len, cap, m, n, D, Pl, hcs, _, hl, hm, hmm, _, hx⟩
  · simp at hcs
    exact ⟨[], none, 0, hcs, fun _ => rfl, .inl rfl⟩
  · simp at hcs
    have c33 : Try.prog.cellsOf 33 = 6 := by kernel_rfl
    rw [c33] at hx
    simp at hmm
    by_cases h0 : len = 0
    · subst h0
      exact ⟨[], some a, cap, hcs, (fun e => by cases e), .inl rfl⟩
    · obtain ⟨cs0, hc0, _⟩ := hx 0 (by omega)
      obtain ⟨g, off, spot⟩ := a
      have hs : spot = none := by
        obtain ⟨_, hlen, hcell⟩ := World.cells?_some hc0
        have := hcell 0 (by omega)
        rw [List.getElem?_eq_getElem (by omega)] at this
        simpa [Addr.add] using World.cell?_spot this
      subst hs
      have each : ∀ i, i < len → ∃ l : Lvl, LvlAt w w.heap.size g (off + i * 6) l := by
        intro i hi
        obtain ⟨cs', h1, h2⟩ := hx i (by omega)
        rw [add_plain] at h1
        exact lvl_of h1 h2
      obtain ⟨f, hf⟩ := Go.Deep.choose_lt (α := Lvl) each
      refine ⟨(List.range len).map f, _, cap, by rw [hcs]; simp, (fun e => by cases e), .inr ⟨g, off, rfl, ?_, fun j l hj => ?_⟩⟩
      · obtain ⟨sv, _, hc, _⟩ := hf 0 (by omega)
        exact World.block_lt_of_cell? w _ hc
      · have hj' : j < len := by have := (List.getElem?_eq_some_iff.1 hj).1; simpa using this
        simp [hj'] at hj
        subst hj
        exact hf j hj'
end
end Go.Proofs.Qxb6628598a

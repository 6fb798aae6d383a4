/-
  A slice of 'ZzS0843AEnd' that came in, opened: from its reading to its cells.
-/
import Derived.Test.YbulkqkyEnds
import Derived.ProofKit
import Derived.OpenShut
import Derived.Deep.Slices
namespace Go.Proofs.Ybulkqky
open Go.ChangeShapes Go.WideShapes Go.ChangeAt Go.RowKit Go.Deep

theorem cells31 : Yba.prog.cellsOf 31 = 9 := by kernel_rfl
theorem cells9 : Yba.prog.cellsOf 9 = 1 := by kernel_rfl
theorem cells3 : Yba.prog.cellsOf 3 = 1 := by kernel_rfl
theorem cells4 : Yba.prog.cellsOf 4 = 1 := by kernel_rfl

theorem list9 {cs : List Value} (h : cs.length = 9) : ∃ c0 c1 c2 c3 c4 c5 c6 c7 c8, cs = [c0, c1, c2, c3, c4, c5, c6, c7, c8] := by
  match cs, h with
  | [c0, c1, c2, c3, c4, c5, c6, c7, c8], _ => exact ⟨c0, c1, c2, c3, c4, c5, c6, c7, c8, rfl⟩

section
variable {H : Type} {enc : TypeId × Value → H} {W : World} {base : Nat} {spare : Nat → Bool} {held : Bool}

set_option maxRecDepth 100000 in
theorem open_end {fuel : Nat} {cs : List Value} {x : DataW H × List MemPlace} (h : DataW.trod enc Yba.prog W base spare held fuel 31 cs = some x) : ∃ z : ZE, cs = z.cells := by
  obtain ⟨xs, n, rfl, rfl, hlen, hxl, hf⟩ := DataW.trod_struct Yba.underlying31 h
  rw [cells31] at hlen
  obtain ⟨c0, c1, c2, c3, c4, c5, c6, c7, c8, rfl⟩ := list9 hlen
  have hx9 : xs.length = 9 := hxl
  have hx : ∀ i, i < 9 → ∃ y, xs[i]? = some y := fun i hi => ⟨xs[i]'(by omega), List.getElem?_eq_getElem _⟩
  obtain ⟨y0, e0⟩ := hx 0 (by omega)
  obtain ⟨y1, e1⟩ := hx 1 (by omega)
  obtain ⟨y2, e2⟩ := hx 2 (by omega)
  obtain ⟨y3, e3⟩ := hx 3 (by omega)
  obtain ⟨y4, e4⟩ := hx 4 (by omega)
  obtain ⟨y5, e5⟩ := hx 5 (by omega)
  obtain ⟨y6, e6⟩ := hx 6 (by omega)
  obtain ⟨y7, e7⟩ := hx 7 (by omega)
  obtain ⟨y8, e8⟩ := hx 8 (by omega)
  have f0 : DataW.trod enc Yba.prog W base spare held n 9 [c0] = some y0 := by
    have := hf 0 _ rfl
    rw [e0] at this
    simpa [cells9] using this
  have f1 : DataW.trod enc Yba.prog W base spare held n 9 [c1] = some y1 := by
    have := hf 1 _ rfl
    rw [e1] at this
    simpa [cells9] using this
  have f2 : DataW.trod enc Yba.prog W base spare held n 9 [c2] = some y2 := by
    have := hf 2 _ rfl
    rw [e2] at this
    simpa [cells9] using this
  have f3 : DataW.trod enc Yba.prog W base spare held n 3 [c3] = some y3 := by
    have := hf 3 _ rfl
    rw [e3] at this
    simpa [cells3] using this
  have f4 : DataW.trod enc Yba.prog W base spare held n 4 [c4] = some y4 := by
    have := hf 4 _ rfl
    rw [e4] at this
    simpa [cells4] using this
  have f5 : DataW.trod enc Yba.prog W base spare held n 9 [c5] = some y5 := by
    have := hf 5 _ rfl
    rw [e5] at this
    simpa [cells9] using this
  have f6 : DataW.trod enc Yba.prog W base spare held n 3 [c6] = some y6 := by
    have := hf 6 _ rfl
    rw [e6] at this
    simpa [cells3] using this
  have f7 : DataW.trod enc Yba.prog W base spare held n 3 [c7] = some y7 := by
    have := hf 7 _ rfl
    rw [e7] at this
    simpa [cells3] using this
  have f8 : DataW.trod enc Yba.prog W base spare held n 9 [c8] = some y8 := by
    have := hf 8 _ rfl
    rw [e8] at this
    simpa [cells9] using this
  obtain ⟨s0, g0, -, -⟩ := DataW.trod_string Yba.underlying9 f0
  obtain ⟨s1, g1, -, -⟩ := DataW.trod_string Yba.underlying9 f1
  obtain ⟨s2, g2, -, -⟩ := DataW.trod_string Yba.underlying9 f2
  obtain ⟨s3, g3, -, -⟩ := DataW.trod_int Yba.underlying3 f3
  obtain ⟨s4, g4, -⟩ := DataW.trod_bool Yba.underlying4 f4
  obtain ⟨s5, g5, -, -⟩ := DataW.trod_string Yba.underlying9 f5
  obtain ⟨s6, g6, -, -⟩ := DataW.trod_int Yba.underlying3 f6
  obtain ⟨s7, g7, -, -⟩ := DataW.trod_int Yba.underlying3 f7
  obtain ⟨s8, g8, -, -⟩ := DataW.trod_string Yba.underlying9 f8
  refine ⟨⟨s0, s1, s2, s3, s4, s5, s6, s7, s8⟩, ?_⟩
  simp only [List.cons.injEq, and_true] at g0 g1 g2 g3 g4 g5 g6 g7 g8
  rw [g0, g1, g2, g3, g4, g5, g6, g7, g8]
  rfl

theorem choose_ends {n : Nat} {p : Nat → ZE → Prop} (h : ∀ i, i < n → ∃ x, p i x) : ∃ f : Nat → ZE, ∀ i, i < n → p i (f i) := by
  classical
  refine ⟨fun i => if hi : i < n then Classical.choose (h i hi) else ⟨.empty, .empty, .empty, 0, false, .empty, 0, 0, .empty⟩, fun i hi => ?_⟩
  simp only [dif_pos hi]
  exact Classical.choose_spec (h i hi)

theorem open_ends {a : Option Addr} {len cap : Nat} {d : DataW H} {p : List MemPlace} (h : DataW.Trod enc Yba.prog W base (fun _ => true) held 22 (.slice a len cap) d p) : ∃ Z, IsEnds W a len Z := by
  obtain ⟨fuel, hf⟩ := h
  rcases open_slice Yba.underlying22 hf with ⟨hcs, _⟩ | ⟨x, l, c, m, n, D, Pl, hcs, _, hl, _, hm, _, hel⟩
  · simp [Value.cells] at hcs
    obtain ⟨rfl, rfl, rfl⟩ := hcs
    exact ⟨fun _ => ⟨.empty, .empty, .empty, 0, false, .empty, 0, 0, .empty⟩, .inl rfl⟩
  · simp [Value.cells] at hcs
    obtain ⟨rfl, rfl, rfl⟩ := hcs
    simp only [if_true] at hm
    subst hm
    rw [cells31] at hel
    rcases Nat.eq_zero_or_pos len with h0 | hpos
    · exact ⟨fun _ => ⟨.empty, .empty, .empty, 0, false, .empty, 0, 0, .empty⟩, .inl h0⟩
    have key : ∀ i, i < len → ∃ z : ZE, ∀ j u, z.cells[j]? = some u → W.cell? (x.add (i * 9 + j)) = some u := fun i hi => by
      obtain ⟨cs', h1, h2⟩ := hel i (by omega)
      obtain ⟨z, rfl⟩ := open_end h2
      obtain ⟨_, _, h3⟩ := World.cells?_some h1
      refine ⟨z, fun j u hu => ?_⟩
      have hj : j < 9 := (List.getElem?_eq_some_iff.1 hu).1
      have := h3 j hj
      rw [Go.Deep.add_add] at this
      rw [this, hu]
    obtain ⟨Z, hZ⟩ := choose_ends key
    have c0 : W.cell? x = some (.string (Z 0).p) := by simpa [Addr.add_zero'] using hZ 0 hpos 0 _ rfl
    obtain ⟨b, off, rfl⟩ : ∃ b off, x = ⟨b, off, none⟩ := by
      obtain ⟨b, off, sp⟩ := x
      cases sp with
      | none => exact ⟨b, off, rfl⟩
      | some s => simp [World.cell?] at c0; split at c0 <;> simp at c0
    refine ⟨Z, .inr ⟨b, off, rfl, World.block_lt_of_cell? W _ c0, fun i hi j u hu => ?_⟩⟩
    have := hZ i hi j u hu
    rw [Addr.add_lit] at this
    rw [Nat.add_assoc]
    exact this
end
end Go.Proofs.Ybulkqky

/-
  'rulings.LawS0848BCoverExact': the row, out of the walk (YbulkqnqLawB) and the opening of its slices. The frame is the guide's template at this function's number and types.
-/
import Derived.Test.YbulkqnqRows
import Derived.Test.YbulkqnqLawB
import Derived.WalkKit
import Derived.ProofKit
import Derived.OpenShut
import Derived.ChangeOld
import Derived.Below
import Derived.Deep.Slices
import Derived.Deep.SlicePairs
namespace Go.Proofs.Ybulkqnq.lawS0848BCoverExact
open Go.ChangeShapes Go.WideShapes Go.ChangeAt Go.RowKit Go.Deep

theorem own : ownKnob Yba.prog.godebug = none := by kernel_rfl
theorem laidOut : laidOutB Yba.prog = true := by kernel_rfl

theorem open_xs {H : Type} {enc : TypeId × Value → H} {W : World} {a : Option Addr} {len cap : Nat} {d : DataW H} {p : List MemPlace} (h : DataW.Trod enc Yba.prog W 0 (fun _ => true) true 22 (.slice a len cap) d p) : ∃ Z, IsXs W a len Z := by
  obtain ⟨fuel, hf⟩ := h
  rcases open_ints Yba.underlying22 Yba.underlying3 (by kernel_rfl) hf with ⟨hcs, _⟩ | ⟨x, l, c, zs, hcs, _, hl, hm, hz, _, hcell, hwz⟩
  · simp [Value.cells] at hcs
    obtain ⟨rfl, rfl, rfl⟩ := hcs
    exact ⟨[], rfl, by simp, .inl rfl⟩
  · simp [Value.cells] at hcs
    obtain ⟨rfl, rfl, rfl⟩ := hcs
    have hz' : zs.length = cap := by simpa using hz
    refine ⟨zs.take len, by simp; omega, fun z hz => (bounds_i64 (hwz z (List.mem_of_mem_take hz))).2, ?_⟩
    rcases Nat.eq_zero_or_pos len with h0 | hpos
    · exact .inl h0
    · obtain ⟨b, off, rfl, hc⟩ := ints_at hcell (by omega)
      refine .inr ⟨b, off, rfl, World.block_lt_of_cell? W _ (hc 0 (by omega)), fun i hi => ?_⟩
      rw [hc i (by omega), List.getD_eq_getElem?_getD, List.getD_eq_getElem?_getD, List.getElem?_take_of_lt hi]

theorem open_runs {H : Type} {enc : TypeId × Value → H} {W : World} {a : Option Addr} {len cap : Nat} {d : DataW H} {p : List MemPlace} (h : DataW.Trod enc Yba.prog W 0 (fun _ => true) true 23 (.slice a len cap) d p) : ∃ R, IsRuns W a len R := by
  obtain ⟨fuel, hf⟩ := h
  rcases open_slice_pairs Yba.underlying23 Yba.underlying28 (by kernel_rfl) rfl rfl (by kernel_rfl) (by kernel_rfl) hf with ⟨hcs, _⟩ | ⟨x, l, c, m, n, V0, V1, D0, D1, P0, P1, hcs, _, hl, hm, hmm, _, hel⟩
  · simp [Value.cells] at hcs
    obtain ⟨rfl, rfl, rfl⟩ := hcs
    exact ⟨fun _ => (0, 0), .inl rfl⟩
  · simp [Value.cells] at hcs
    obtain ⟨rfl, rfl, rfl⟩ := hcs
    simp only [if_true] at hmm
    subst hmm
    have key : ∀ i, i < len → ∃ r : Int × Int, W.cell? (x.add (i * 2)) = some (.int .i64 r.1) ∧ W.cell? (x.add (i * 2 + 1)) = some (.int .i64 r.2) ∧ -9223372036854775808 ≤ r.2 := fun i hi => by
      obtain ⟨h1, h2, h3, h4⟩ := hel i (by omega)
      obtain ⟨u, hu, _, _⟩ := DataW.trod_int Yba.underlying3 h3
      obtain ⟨v, hv, _, hw⟩ := DataW.trod_int Yba.underlying3 h4
      simp only [List.cons.injEq, and_true] at hu hv
      exact ⟨(u, v), by rw [h1, hu], by rw [h2, hv], (bounds_i64 hw).1⟩
    obtain ⟨R, hR⟩ := choose_lt (α := Int × Int) key
    refine ⟨R, ?_⟩
    rcases Nat.eq_zero_or_pos len with h0 | hpos
    · exact .inl h0
    · have c0 := (hR 0 hpos).1
      rw [Nat.zero_mul, Addr.add_zero'] at c0
      obtain ⟨b, off, rfl⟩ : ∃ b off, x = ⟨b, off, none⟩ := by
        obtain ⟨b, off, sp⟩ := x
        cases sp with
        | none => exact ⟨b, off, rfl⟩
        | some s => simp [World.cell?] at c0; split at c0 <;> simp at c0
      refine .inr ⟨b, off, rfl, World.block_lt_of_cell? W _ c0, fun i hi => ?_⟩
      obtain ⟨h1, h2, h3⟩ := hR i hi
      rw [Addr.add_lit] at h1 h2
      exact ⟨h1, by rw [Nat.add_assoc]; exact h2, h3⟩

set_option maxRecDepth 100000 in
theorem lifted (os : Os) (started : os.Started) (H : Type) (enc : TypeId × Value → H) :
    ReturnsInHanded {} Yba.checked os 3 .any (Rows.lawS0848BCoverExactSpec.pre6 enc Yba.prog Yba.f3 Rows.lawS0848BCoverExactRow.domain false) (Rows.lawS0848BCoverExactSpec.post enc Yba.prog Yba.f3 false true false false) := by
  refine returnsInHanded_of_change (C := Yba.checked) own started (by kernel_rfl) Yba.func3
    (ChangeSpec.witness6 (enc := enc) (C := Yba.checked) false ⟨#[], #[.slice none 0 0, .slice none 0 0], []⟩ 8 (by kernel_rfl) (by kernel_rfl) (by kernel_rfl) (by kernel_rfl)) ?_
  intro W base args ds gs before hval0 hW hcnd _
  have hval : ∀ (j : Nat) t v, Yba.f3.params[j]? = some t → args[j]? = some v → Value.okWide Yba.prog W .any base t v := hval0
  have hW' := hW
  obtain ⟨p, q, hA0, hV, rfl, hfz, hnd⟩ := hW
  have hA : DataW.TrodAll enc Yba.prog W 0 (fun _ => true) true Yba.f3.params.toList args.toList ds p := hA0
  rw [Yba.params3] at hA hval
  obtain ⟨v0, vs0, d0, ds0, p0, q0, hargs, rfl, rfl, h0, r0⟩ := trodAll_cons hA
  obtain ⟨v1, vs1, d1, ds1, p1, q1, rfl, rfl, rfl, h1, r1⟩ := trodAll_cons r0
  obtain ⟨rfl, rfl, rfl⟩ := trodAll_nil r1
  obtain rfl : args = #[v0, v1] := by cases args; simp_all
  obtain ⟨rfl, rfl⟩ := trodVars_none hV
  obtain ⟨a0, len0, cap0, rfl⟩ := okWide_slice Yba.underlying22 (hval 0 22 v0 rfl rfl)
  obtain ⟨a1, len1, cap1, rfl⟩ := okWide_slice Yba.underlying23 (hval 1 23 v1 rfl rfl)
  have k0 := h0
  have k1 := h1
  have lt0 : ∀ x ∈ p0, x.block < W.heap.size := by obtain ⟨m, hm⟩ := k0; exact DataW.trod_lt m _ _ _ hm
  have lt1 : ∀ x ∈ p1, x.block < W.heap.size := by obtain ⟨m, hm⟩ := k1; exact DataW.trod_lt m _ _ _ hm
  obtain ⟨Z, w0⟩ := open_xs h0
  obtain ⟨R, w1⟩ := open_runs h1
  clear hA0 hval0
  refine (law_any a0 a1 len0 cap0 len1 cap1 Z R W w0 w1).mono fun e W' ⟨he, bel⟩ => ?_
  subst he
  exact ⟨_, rfl, _, _, _, [], _, [], hW', trodAll_mk1 (shut_bool Yba.underlying4 _), (trodAll_cons_mk (Below.trod laidOut (by kernel_rfl) (of_decide_eq_true (by kernel_rfl)) k0 bel lt0) (trodAll_cons_mk (Below.trod laidOut (by kernel_rfl) (of_decide_eq_true (by kernel_rfl)) k1 bel lt1) trodAll_mk0)), rfl, bel.frame _, fun h => by cases h⟩

theorem over : Rows.lawS0848BCoverExactRow.holds Yba.pinned (OpenSpec.ofChange Rows.lawS0848BCoverExactSpec) :=
  OpenClaim.holds_of_wide 3 Yba.f3 rfl rfl rfl rfl rfl rfl rfl ⟨rfl, rfl, rfl, rfl, rfl⟩ rfl rfl rfl rfl rfl (by kernel_rfl) Yba.func3 (by kernel_rfl)
    (of_decide_eq_true (by kernel_rfl)) (by unfold Func.isWrapper; first | (rw [if_pos (by decide +kernel)]; kernel_rfl) | (rw [if_neg (by decide +kernel)]; exact ⟨rfl, rfl⟩))
    (fun os started H enc _ => lifted os started H enc)

/-- THE STATEMENT -/
theorem proved : Rows.LawS0848BCoverExactSaid := over
end Go.Proofs.Ybulkqnq.lawS0848BCoverExact

/-
  'jsonbody.LawS0845CSpill': the row, out of the walk (YbulkqmaSpillLaw) and the opening of its slices. The frame is the guide's template at this function's number and types.
-/
import Derived.Test.YbulkqmaRows
import Derived.Test.YbulkqmaSpillLaw
import Derived.WalkKit
import Derived.ProofKit
import Derived.OpenShut
import Derived.ChangeOld
import Derived.Below
import Derived.Deep.Slices
import Derived.Laws.BytesArg
namespace Go.Proofs.Ybulkqma.lawS0845CSpill
open Go.ChangeShapes Go.WideShapes Go.ChangeAt Go.RowKit Go.Deep

theorem own : ownKnob Yba.prog.godebug = none := by kernel_rfl
theorem laidOut : laidOutB Yba.prog = true := by kernel_rfl

section
variable {H : Type} {enc : TypeId × Value → H} {W : World}

/-- A []byte that came in converts to one and the same text as long as the old memory stands. -/
theorem open_text {fuel : Nat} {v : Value} {x : DataW H × List MemPlace} (h : DataW.trod enc Yba.prog W 0 (fun _ => true) true fuel 22 [v] = some x) :
    ∃ (a : Option Addr) (l c : Nat) (s : ByteArray), v = .slice a l c ∧ ∀ w', Below W.heap.size W w' → (convert 22 9 (.slice a l c)).run Yba.prog w' = .ok (.string s) w' := by
  rcases open_ints Yba.underlying22 Yba.underlying5 (by kernel_rfl) h with ⟨hcs, _⟩ | ⟨x, l, c, zs, hcs, _, hl, _, hz, _, hcell, _⟩
  · simp only [List.cons.injEq, and_true] at hcs
    exact ⟨none, 0, 0, ByteArray.empty, hcs, fun w' _ => run_convert_bytes_nil w' 22 5 Yba.underlying22 Yba.underlying5 0 0 9 Yba.underlying9⟩
  · simp only [List.cons.injEq, and_true] at hcs
    have hz' : zs.length = c := by simpa using hz
    rcases Nat.eq_zero_or_pos l with h0 | hpos
    · subst h0
      refine ⟨some x, 0, c, ([] : List Int).foldl (fun r n => r.push (UInt8.ofNat n.toNat)) ByteArray.empty, hcs, fun w' _ => ?_⟩
      rw [run_convert_bytes_string w' 22 9 5 _ 0 c Yba.underlying22 Yba.underlying5 Yba.underlying9]
      exact run_bytesToString w' x 0 c [] (by simp [loadCells, loadCellsFrom])
    · obtain ⟨b, off, rfl, hc⟩ := ints_at hcell (by omega)
      have hb : b < W.heap.size := World.block_lt_of_cell? W _ (hc 0 (by omega))
      refine ⟨_, l, c, strOfNums (zs.take l), hcs, fun w' hw => ?_⟩
      exact run_convert_bytes_arg w' 22 5 Yba.underlying22 Yba.underlying5 b off l c (zs.take l) (by simp; omega) (fun i hi => by
        rw [hw.cell (p := ⟨b, off + i, none⟩) hb, hc i (by omega)]
        simp [List.getD, hi]) 9 Yba.underlying9

theorem open_keys {a : Option Addr} {len cap : Nat} {d : DataW H} {p : List MemPlace} (h : DataW.Trod enc Yba.prog W 0 (fun _ => true) true 28 (.slice a len cap) d p) :
    len ≤ cap ∧ cap ≤ maxLen ∧ ∃ ka kl kc S, Keys W.heap.size W a len ka kl kc S := by
  obtain ⟨fuel, hf⟩ := h
  rcases open_slice1 Yba.underlying28 (by kernel_rfl) hf with ⟨hcs, _⟩ | ⟨x, l, c, m, n, V, D, Pl, hcs, _, hl, hm, hmm, _, hel⟩
  · simp [Value.cells] at hcs
    obtain ⟨rfl, rfl, rfl⟩ := hcs
    exact ⟨Nat.le_refl _, Nat.zero_le _, fun _ => none, fun _ => 0, fun _ => 0, fun _ => ByteArray.empty, ⟨.inl rfl, fun i hi => absurd hi (Nat.not_lt_zero _)⟩⟩
  · simp [Value.cells] at hcs
    obtain ⟨rfl, rfl, rfl⟩ := hcs
    simp only [if_true] at hmm
    subst hmm
    refine ⟨hl, hm, ?_⟩
    have key : ∀ i, i < len → ∃ t : Option Addr × Nat × Nat × ByteArray, W.cell? (x.add i) = some (.slice t.1 t.2.1 t.2.2.1) ∧ ∀ w', Below W.heap.size W w' → (convert 22 9 (.slice t.1 t.2.1 t.2.2.1)).run Yba.prog w' = .ok (.string t.2.2.2) w' := fun i hi => by
      obtain ⟨h1, h2⟩ := hel i (by omega)
      obtain ⟨a', l', c', s', hv, hc⟩ := open_text h2
      exact ⟨(a', l', c', s'), by rw [h1, hv], hc⟩
    obtain ⟨F, hF⟩ := choose_lt (α := Option Addr × Nat × Nat × ByteArray) key
    refine ⟨fun i => (F i).1, fun i => (F i).2.1, fun i => (F i).2.2.1, fun i => (F i).2.2.2, ⟨?_, fun i hi => (hF i hi).2⟩⟩
    rcases Nat.eq_zero_or_pos len with h0 | hpos
    · exact .inl h0
    · have c0 := (hF 0 hpos).1
      rw [Addr.add_zero'] at c0
      obtain ⟨b, off, rfl⟩ : ∃ b off, x = ⟨b, off, none⟩ := by
        obtain ⟨b, off, sp⟩ := x
        cases sp with
        | none => exact ⟨b, off, rfl⟩
        | some s => simp [World.cell?] at c0; split at c0 <;> simp at c0
      refine .inr ⟨b, off, rfl, World.block_lt_of_cell? W _ c0, fun i hi => ?_⟩
      have := (hF i hi).1
      rw [Addr.add_lit] at this
      exact this

theorem open_ats {a : Option Addr} {len cap : Nat} {d : DataW H} {p : List MemPlace} (h : DataW.Trod enc Yba.prog W 0 (fun _ => true) true 29 (.slice a len cap) d p) : len ≤ maxLen ∧ ∃ T, IsAts W a len T := by
  obtain ⟨fuel, hf⟩ := h
  rcases open_ints Yba.underlying29 Yba.underlying3 (by kernel_rfl) hf with ⟨hcs, _⟩ | ⟨x, l, c, zs, hcs, _, hl, hm, hz, _, hcell, hwz⟩
  · simp [Value.cells] at hcs
    obtain ⟨rfl, rfl, rfl⟩ := hcs
    exact ⟨Nat.zero_le _, fun _ => 0, .inl rfl⟩
  · simp [Value.cells] at hcs
    obtain ⟨rfl, rfl, rfl⟩ := hcs
    have hz' : zs.length = cap := by simpa using hz
    refine ⟨by omega, fun i => zs.getD i 0, ?_⟩
    rcases Nat.eq_zero_or_pos len with h0 | hpos
    · exact .inl h0
    · obtain ⟨b, off, rfl, hc⟩ := ints_at hcell (by omega)
      refine .inr ⟨b, off, rfl, World.block_lt_of_cell? W _ (hc 0 (by omega)), fun i hi => ?_⟩
      have hmem : zs.getD i 0 ∈ zs := by
        rw [List.getD_eq_getElem?_getD, List.getElem?_eq_getElem (by omega), Option.getD_some]
        exact List.getElem_mem _
      have hb := bounds_i64 (hwz _ hmem)
      exact ⟨hc i (by omega), hb.1, hb.2⟩
end

set_option maxRecDepth 100000 in
theorem lifted (os : Os) (started : os.Started) (H : Type) (enc : TypeId × Value → H) :
    ReturnsInHanded {} Yba.checked os 5 .any (Rows.lawS0845CSpillSpec.pre6 enc Yba.prog Yba.f5 Rows.lawS0845CSpillRow.domain false) (Rows.lawS0845CSpillSpec.post enc Yba.prog Yba.f5 false true false false) := by
  refine returnsInHanded_of_change (C := Yba.checked) own started (by kernel_rfl) Yba.func5
    (ChangeSpec.witness6 (enc := enc) (C := Yba.checked) false ⟨#[], #[.slice none 0 0, .slice none 0 0, .int .u8 0, .slice none 0 0], []⟩ 8 (by kernel_rfl) (by kernel_rfl) (by kernel_rfl) (by kernel_rfl)) ?_
  intro W base args ds gs before hval0 hW hcnd _
  have hval : ∀ (j : Nat) t v, Yba.f5.params[j]? = some t → args[j]? = some v → Value.okWide Yba.prog W .any base t v := hval0
  have hW' := hW
  obtain ⟨p, q, hA0, hV, rfl, hfz, hnd⟩ := hW
  have hA : DataW.TrodAll enc Yba.prog W 0 (fun _ => true) true Yba.f5.params.toList args.toList ds p := hA0
  rw [Yba.params5] at hA hval
  obtain ⟨v0, vs0, d0, ds0, p0, q0, hargs, rfl, rfl, h0, r0⟩ := trodAll_cons hA
  obtain ⟨v1, vs1, d1, ds1, p1, q1, rfl, rfl, rfl, h1, r1⟩ := trodAll_cons r0
  obtain ⟨v2, vs2, d2, ds2, p2, q2, rfl, rfl, rfl, h2, r2⟩ := trodAll_cons r1
  obtain ⟨v3, vs3, d3, ds3, p3, q3, rfl, rfl, rfl, h3, r3⟩ := trodAll_cons r2
  obtain ⟨rfl, rfl, rfl⟩ := trodAll_nil r3
  obtain rfl : args = #[v0, v1, v2, v3] := by cases args; simp_all
  obtain ⟨rfl, rfl⟩ := trodVars_none hV
  obtain ⟨a0, len0, cap0, rfl⟩ := okWide_slice Yba.underlying28 (hval 0 28 v0 rfl rfl)
  obtain ⟨a1, len1, cap1, rfl⟩ := okWide_slice Yba.underlying29 (hval 1 29 v1 rfl rfl)
  obtain ⟨a2, rfl, rfl, rfl, w2⟩ := open_int Yba.underlying5 (hval 2 5 v2 rfl rfl) h2
  obtain ⟨a3, len3, cap3, rfl⟩ := okWide_slice Yba.underlying22 (hval 3 22 v3 rfl rfl)
  have k0 := h0
  have k1 := h1
  have k3 := h3
  have lt0 : ∀ x ∈ p0, x.block < W.heap.size := by obtain ⟨m, hm⟩ := k0; exact DataW.trod_lt m _ _ _ hm
  have lt1 : ∀ x ∈ p1, x.block < W.heap.size := by obtain ⟨m, hm⟩ := k1; exact DataW.trod_lt m _ _ _ hm
  have lt3 : ∀ x ∈ p3, x.block < W.heap.size := by obtain ⟨m, hm⟩ := k3; exact DataW.trod_lt m _ _ _ hm
  obtain ⟨hl0, hm0, ka, kl, kc, S, hK⟩ := open_keys h0
  obtain ⟨hm1, T, hT⟩ := open_ats h1
  obtain ⟨SL, hL⟩ : ∃ SL, ∀ w', Below W.heap.size W w' → (convert 22 9 (.slice a3 len3 cap3)).run Yba.prog w' = .ok (.string SL) w' := by
    obtain ⟨fuel, hf⟩ := h3
    obtain ⟨a', l', c', s', hv, hc⟩ := open_text (v := .slice a3 len3 cap3) (by simpa [Value.cells] using hf)
    simp only [Value.slice.injEq] at hv
    obtain ⟨rfl, rfl, rfl⟩ := hv
    exact ⟨s', hc⟩
  have hpr := bounds_u8 w2
  clear hA0 hval0
  refine (spill_walk a0 a1 a3 len0 cap0 len1 cap1 len3 cap3 a2 ka kl kc S SL T W hK hT hL hl0 hm0 hm1 hpr.1 hpr.2).mono fun e W' ⟨he, bel⟩ => ?_
  subst he
  exact ⟨_, rfl, _, _, _, [], _, [], hW', trodAll_mk1 (shut_bool Yba.underlying4 _), (trodAll_cons_mk (Below.trod laidOut (by kernel_rfl) (of_decide_eq_true (by kernel_rfl)) k0 bel lt0) (trodAll_cons_mk (Below.trod laidOut (by kernel_rfl) (of_decide_eq_true (by kernel_rfl)) k1 bel lt1) (trodAll_cons_mk (shut_int Yba.underlying5 w2) (trodAll_cons_mk (Below.trod laidOut (by kernel_rfl) (of_decide_eq_true (by kernel_rfl)) k3 bel lt3) trodAll_mk0)))), rfl, bel.frame _, fun h => by cases h⟩

theorem over : Rows.lawS0845CSpillRow.holds Yba.pinned (OpenSpec.ofChange Rows.lawS0845CSpillSpec) :=
  OpenClaim.holds_of_wide 5 Yba.f5 rfl rfl rfl rfl rfl rfl rfl ⟨rfl, rfl, rfl, rfl, rfl⟩ rfl rfl rfl rfl rfl (by kernel_rfl) Yba.func5 (by kernel_rfl)
    (of_decide_eq_true (by kernel_rfl)) (by unfold Func.isWrapper; first | (rw [if_pos (by decide +kernel)]; kernel_rfl) | (rw [if_neg (by decide +kernel)]; exact ⟨rfl, rfl⟩))
    (fun os started H enc _ => lifted os started H enc)

/-- THE STATEMENT -/
theorem proved : Rows.LawS0845CSpillSaid := over
end Go.Proofs.Ybulkqma.lawS0845CSpill

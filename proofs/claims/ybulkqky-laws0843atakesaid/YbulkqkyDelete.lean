/-
  slices.Delete(s, 0, 1) at []serviceEnd, s a row of the call's own that holds at least one end: the first end goes, the others stay in order.
-/
import Derived.Test.YbulkqkyEnds
import Derived.Deep.RegionLaw
import Derived.Laws.IdiomCopy
namespace Go.Proofs.Ybulkqky
open Go.RowKit Go.Conc

theorem lay_list (v : Value) (r : List Value) : ∀ (l : List Value) (o : Nat), o + (r.length + 1) ≤ l.length →
    (l.set o v).take (o + 1) ++ r ++ (l.set o v).drop (o + 1 + r.length) = l.take o ++ v :: r ++ l.drop (o + (r.length + 1))
  | [], o, h => by simp at h
  | a :: l, 0, _ => by
    have e : 0 + 1 + r.length = r.length + 1 := by omega
    have e' : 0 + (r.length + 1) = r.length + 1 := by omega
    rw [e, e']
    simp
  | a :: l, o + 1, h => by
    have ih := lay_list v r l o (by simp at h; omega)
    have e : o + 1 + 1 + r.length = (o + 1 + r.length) + 1 := by omega
    have e' : o + 1 + (r.length + 1) = (o + (r.length + 1)) + 1 := by omega
    rw [e, e']
    simpa using ih

theorem setCells_block (g : Nat) (t : TypeId) (fr : Nat × Nat) : ∀ (vs : List Value) (o : Nat) (w : World) (cur : Array Value), w.heap[g]? = some (.cells cur t fr) → o + vs.length ≤ cur.size →
    (w.setCells g o vs).heap[g]? = some (.cells (cur.toList.take o ++ vs ++ cur.toList.drop (o + vs.length)).toArray t fr)
  | [], o, w, cur, h, _ => by
    simp only [World.setCells, List.append_nil, List.length_nil, Nat.add_zero, List.take_append_drop, Array.toArray_toList]
    exact h
  | v :: r, o, w, cur, h, hs => by
    have hlen : o + (r.length + 1) ≤ cur.size := by simpa using hs
    have h1 := Joins.block_setCell (i := o) h v
    have h2 := setCells_block g t fr r (o + 1) (w.setCell ⟨g, o, none⟩ v) _ h1 (by simp; omega)
    simp only [World.setCells]
    rw [h2]
    congr 2
    apply Array.ext'
    simp only [Array.toList_setIfInBounds, List.length_cons]
    exact lay_list v r cur.toList o (by simpa using hlen)

theorem setCells_grown (g : Nat) : ∀ (vs : List Value) (o : Nat) (w : World), w.grownBy (w.setCells g o vs) (some g)
  | [], _, w => World.grownBy.refl w _
  | v :: r, o, w => by
    have h := setCells_grown g r (o + 1) (w.setCell ⟨g, o, none⟩ v)
    simp only [World.setCells]
    refine ⟨h.os, h.tape, h.output, Nat.le_trans (by simp [World.setCell]) h.size, fun k hk hne => ?_⟩
    rw [h.block k (by simpa [World.setCell] using hk) hne]
    exact Below.heap_setCell _ _ _ _ (fun e => hne (by simp at e; rw [e]))

theorem flat_one (L : List SE) : ∀ u ∈ flat L, u.oneCell' = true := by
  intro u hu
  simp only [flat, List.mem_flatMap] at hu
  obtain ⟨z, _, hz⟩ := hu
  exact one6 _ _ _ _ _ _ u hz

def zero6 : List Value := [.string ⟨#[]⟩, .string ⟨#[]⟩, .string ⟨#[]⟩, .int .i64 0, .pointer none, .string ⟨#[]⟩]

theorem run_clear6 (w : World) (ty : TypeId) (b o c : Nat) (hc : ∀ j, j < 6 → (w.cell? ⟨b, o + j, none⟩).isSome = true) (hf : ∀ j, j < 6 → w.frozen? ⟨b, o + j, none⟩ = false) :
    (Builtin.clear_ #[25] ty #[.slice (some ⟨b, o, none⟩) 1 c]).run Yba.prog w = .ok (.tuple #[]) (w.setCells b o zero6) := by
  have hst := run_storeCells_cells (P := Yba.prog) b o zero6 0 w (by simpa [zero6] using hc) (by simpa [zero6] using hf) (by intro v hv'; simp [zero6] at hv'; rcases hv' with rfl | rfl | rfl | rfl <;> rfl)
  simp only [Nat.add_zero] at hst
  have hz : (Builtin.zeroCells (Value.agg #[.string ⟨#[]⟩, .string ⟨#[]⟩, .string ⟨#[]⟩, .int .i64 0, .pointer none, .string ⟨#[]⟩]).cells 1).toList = zero6 := by kernel_rfl
  simp [Builtin.clear_, run_underlying Yba.underlying25, Yba.zeroValue28, hz, hst]

set_option maxHeartbeats 1000000 in
theorem delete_any (B g n cap : Nat) (z : SE) (L : List SE) (w : World) (hL : L.length = n) (hown : w.ownsRow B 28 6 (.slice (some ⟨g, 0, none⟩) (n + 1) cap) (n + 1) (flat (z :: L))) :
    Calls Yba.prog 16 #[.slice (some ⟨g, 0, none⟩) (n + 1) cap, .int .i64 0, .int .i64 1] w fun e w' => e = .returned (.slice (some ⟨g, 0, none⟩) n cap) ∧
      w'.ownsRow B 28 6 (.slice (some ⟨g, 0, none⟩) n cap) n (flat L) ∧ w.grownBy w' (some g) := by
  obtain ⟨cur, hB, hg, hn, hm, hsz, hcur⟩ : ∃ cur, B ≤ g ∧ w.heap[g]? = some (.cells cur 28 (0, 0)) ∧ n + 1 ≤ cap ∧ cap ≤ maxLen ∧ cur.size = cap * 6 ∧ cur.toList.take ((n + 1) * 6) = flat (z :: L) := by
    rcases hown.2 with ⟨e, _⟩ | ⟨g', cp, cur, e, h1, h2, h3, h4, h5, h6⟩
    · simp at e
    · simp only [Value.slice.injEq, Option.some.injEq, Addr.mk.injEq, true_and, and_true] at e
      obtain ⟨rfl, rfl⟩ := e
      exact ⟨cur, h1, h2, h3, h4, h5, h6⟩
  have hfl : (flat L).length = n * 6 := by rw [flat_length, hL]
  have hdrop : (cur.toList.drop 6).take (n * 6) = flat L := by
    have : (cur.toList.take ((n + 1) * 6)).drop 6 = flat L := by rw [hcur]; rfl
    rw [← this, List.drop_take]; congr 1; omega
  obtain ⟨news, hnews⟩ : ∃ news, news = flat L := ⟨_, rfl⟩
  have hlen : news.length = n * 6 := by rw [hnews]; exact hfl
  have hcell : ∀ j, w.cell? ⟨g, j, none⟩ = cur[j]? := fun j => by simp [World.cell?, hg]
  have hfro : ∀ j, w.frozen? ⟨g, j, none⟩ = false := fun j => by simp [World.frozen?, hg]
  obtain ⟨A, hA, hsrc⟩ : ∃ A : Addr, (if cap = 1 then some (⟨g, 0, none⟩ : Addr) else some ⟨g, 6, none⟩) = some A ∧ Hid (∀ t u, news[t]? = some u → w.drew.cell? (A.add t) = some u) := by
    by_cases h : cap = 1
    · refine ⟨⟨g, 0, none⟩, by simp [h], fun t u hu => ?_⟩
      have h0 : news.length = 0 := by rw [hlen]; omega
      rw [List.length_eq_zero_iff.1 h0] at hu
      simp at hu
    · refine ⟨⟨g, 6, none⟩, by simp [h], fun t u hu => ?_⟩
      have ht : t < n * 6 := by
        have := (List.getElem?_eq_some_iff.1 hu).1
        rwa [hlen] at this
      rw [Addr.add_lit]
      show w.cell? _ = _
      rw [hcell, ← Array.getElem?_toList]
      rw [hnews, ← hdrop, List.getElem?_take, if_pos ht, List.getElem?_drop] at hu
      exact hu
  have s1 : Hid (news.length = n * 6) := hlen
  have s2 : Hid (∀ u ∈ news, u.oneCell' = true) := by rw [hnews]; exact flat_one L
  have s3 : Hid (∀ t, t < news.length → (w.drew.cell? ⟨g, 0 + 0 * 6 + t, none⟩).isSome = true ∧ w.drew.frozen? ⟨g, 0 + 0 * 6 + t, none⟩ = false) := by
    intro t ht
    rw [hlen] at ht
    refine ⟨?_, hfro _⟩
    show (w.cell? _).isSome = true
    rw [hcell, Array.getElem?_eq_getElem (by omega)]
    rfl
  obtain ⟨W1, hW1⟩ : ∃ W1, W1 = w.drew.setCells g (0 + 0 * 6) news := ⟨_, rfl⟩
  have hg1 : W1.heap[g]? = some (.cells (news ++ cur.toList.drop (n * 6)).toArray 28 (0, 0)) := by
    have := setCells_block g 28 (0, 0) news 0 w.drew cur hg (by omega)
    rw [hW1, Nat.zero_mul, Nat.zero_add, this, hlen]
    simp
  have hgr1 : w.grownBy W1 (some g) := by
    have := setCells_grown g news (0 + 0 * 6) w.drew
    rw [hW1]
    exact ⟨this.os, this.tape, this.output, this.size, this.block⟩
  have hs1 : (news ++ cur.toList.drop (n * 6)).toArray.size = cur.size := by simp [hlen]; omega
  have hcl := fun ty => run_clear6 W1 ty g (n * 6) (cap - n) (fun j hj => by
      have : W1.cell? ⟨g, n * 6 + j, none⟩ = (news ++ cur.toList.drop (n * 6)).toArray[n * 6 + j]? := by simp only [World.cell?, hg1]; simp
      rw [this, Array.getElem?_eq_getElem (by omega)]; rfl) (fun j hj => by simp [World.frozen?, hg1])
  have fin : (W1.setCells g (n * 6) zero6).ownsRow B 28 6 (.slice (some ⟨g, 0, none⟩) n cap) n (flat L) ∧ w.grownBy (W1.setCells g (n * 6) zero6) (some g) := by
    have hb := setCells_block g 28 (0, 0) zero6 (n * 6) W1 _ hg1 (by rw [hs1]; simp [zero6]; omega)
    have hgr2 := setCells_grown g zero6 (n * 6) W1
    refine ⟨⟨hfl, .inr ⟨g, cap, _, rfl, hB, hb, by omega, hm, ?_, ?_⟩⟩, ?_⟩
    · simp [zero6, hlen]; omega
    · rw [List.append_assoc, List.take_append_of_le_length (by simp; omega), List.take_take, Nat.min_self]
      rw [List.take_append_of_le_length (by omega), List.take_of_length_le (by omega), hnews]
    · exact ⟨hgr2.os.trans hgr1.os, hgr2.tape.trans hgr1.tape, hgr2.output.trans hgr1.output, Nat.le_trans hgr1.size hgr2.size, fun k hk hne => (hgr2.block k (Nat.lt_of_lt_of_le hk hgr1.size) hne).trans (hgr1.block k hk hne)⟩
  have hW : Hid (W1 = w.drew.setCells g (0 + 0 * 6) news) := hW1
  obtain ⟨i0, hi, hz0, hz1, hz2⟩ := info_parts info28
  have h1n : (1 : Int) ≤ (n : Int) + 1 := by omega
  have h1c : 1 ≤ cap := by omega
  unfold maxLen at hm
  clear hW1 hg1 hgr1 hs1 hg hcell hfro hnews hdrop hcur hsz hown hlen hfl
  go_enter Yba.func16, Yba.ntmps16
  go_wp2_with fail
  go_region_law (refine step_append_room rfl (.tmp 22) (.tmp 25) 25 rfl 28 i0 6 Yba.underlying25 hi hz1 g 0 0 cap (by simp [Act.eval, Act.put]) A n (cap - 1) news (by simp [Act.eval, Act.put]) s1.out hsrc.out s2.out (by omega) s3.out ?_; rw [← hW.out])
  all_goals
    go_wp2
    go_ret
    exact ⟨rfl, fin⟩
end Go.Proofs.Ybulkqky

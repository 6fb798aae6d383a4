/-
  The columns: a copy of xs, sorted and compacted; and the plain law on the log.
-/
import Derived.Test.YbulkqnqShelf
import Derived.Test.YbulkqnqPlain
import Derived.Lib.OwnBridge
import Derived.Lib.SortBridge
namespace Go.Proofs.Ybulkqnq
open Go.RowKit

theorem compact_inc {d : Array Int} (hd : ∀ i j, i < j → j < d.size → d[i]! ≤ d[j]!) : ∀ m, m ≤ d.size → (Lib.compactUpTo d m).Pairwise (· < ·) ∧ ∀ x ∈ Lib.compactUpTo d m, ∃ i, i < m ∧ x = d[i]!
  | 0, _ => by simp [Lib.compactUpTo]
  | m + 1, hm => by
    obtain ⟨h1, h2⟩ := compact_inc hd m (by omega)
    rw [Lib.compactUpTo_succ]
    constructor
    · split
      · rename_i hk
        rw [List.pairwise_append]
        refine ⟨h1, by simp, fun x hx y hy => ?_⟩
        simp at hy
        subst hy
        obtain ⟨i, hi, rfl⟩ := h2 x hx
        have hne : d[m]! ≠ d[m - 1]! := by
          unfold Lib.keeps at hk
          have := of_decide_eq_true hk
          omega
        have h3 := hd (m - 1) m (by omega) (by omega)
        by_cases e : i = m - 1
        · subst e; omega
        · have := hd i (m - 1) (by omega) (by omega); omega
      · rw [List.append_nil]; exact h1
    · intro x hx
      rw [List.mem_append] at hx
      rcases hx with hx | hx
      · obtain ⟨i, hi, rfl⟩ := h2 x hx
        exact ⟨i, by omega, rfl⟩
      · split at hx
        · simp at hx; exact ⟨m, by omega, hx⟩
        · simp at hx

theorem compact_sorted {zs : List Int} (h : zs.Pairwise (· ≤ ·)) : (Lib.compact zs).Pairwise (· < ·) := by
  refine (compact_inc (d := zs.toArray) (fun i j hij hj => ?_) zs.length (by simp)).1
  have hj' : j < zs.length := by simpa using hj
  have := List.pairwise_iff_getElem.1 h i j (by omega) hj' hij
  simpa [getElem!_pos, hj', show i < zs.length by omega] using this
theorem mem_compact {zs : List Int} {x : Int} (h : x ∈ Lib.compact zs) : x ∈ zs := by
  unfold Lib.compact Lib.compactUpTo at h
  obtain ⟨i, hi, rfl⟩ := List.mem_map.1 h
  have hi' : i < zs.length := List.mem_range.1 (List.mem_filter.1 hi).1
  simp [getElem!_pos, hi']

/-- The columns. -/
def colsOf (zs : List Int) : List Int := Lib.compact (zs.mergeSort fun x y => decide (x ≤ y))
theorem cols_inc (zs : List Int) : (colsOf zs).Pairwise (· < ·) := by
  apply compact_sorted
  have := List.pairwise_mergeSort (le := fun x y : Int => decide (x ≤ y)) (fun a b c h1 h2 => by simp at *; omega) (fun a b => by simp; omega) zs
  exact this.imp (fun h => by simpa using h)
theorem cols_len (zs : List Int) : (colsOf zs).length ≤ zs.length := by
  have := Lib.compact_length_le (zs.mergeSort fun x y => decide (x ≤ y))
  rw [List.length_mergeSort] at this
  exact this
theorem cols_mem {zs : List Int} {x : Int} (h : x ∈ colsOf zs) : x ∈ zs := by
  have := mem_compact h
  exact List.mem_mergeSort.1 this

theorem below_grow {B : Nat} {w0 w : World} (h : Below B w0 w) (hB : B ≤ w.heap.size) (os : Array Obj) : Below B w0 (Sort.grow w os) :=
  ⟨h.os, h.tape, h.output, by have := h.size; simp [Sort.grow]; omega, fun k hk => by
    rw [Sort.heap_grow_old w os (show k < w.heap.size by omega)]; exact h.block k hk⟩
theorem own_grow {w : World} {B e size n : Nat} {v : Value} {xs : List Value} (h : w.ownsRow B e size v n xs) (os : Array Obj) : (Sort.grow w os).ownsRow B e size v n xs := by
  refine ⟨h.1, h.2.imp id ?_⟩
  rintro ⟨g, cap, cur, h1, h2, h3, h4⟩
  refine ⟨g, cap, cur, h1, h2, ?_, h4⟩
  rw [Sort.heap_grow_old w os (lt_of_block h3)]
  exact h3

theorem sort_own {B g n cap : Nat} {zs : List Int} {w : World} (h : w.ownsRow B 3 1 (.slice (some ⟨g, 0, none⟩) n cap) n (zs.map (Value.int .i64))) (hn : n ≤ 256) :
    Calls Yba.prog 5 #[.slice (some ⟨g, 0, none⟩) n cap] w fun e w' => e = .returned (.tuple #[]) ∧ w'.ownsRow B 3 1 (.slice (some ⟨g, 0, none⟩) n cap) n ((zs.mergeSort fun x y => decide (x ≤ y)).map (Value.int .i64)) ∧ Below B w w' := by
  obtain ⟨g', cap', e1, hBg, hgs, hnc, hcm, hl, hH⟩ := Lib.holds_of_ownsRow h (by simp)
  injection e1 with e1 _ e3
  injection e1 with e1
  injection e1 with e1
  subst e1; subst e3
  have hms : (zs.mergeSort fun x y => decide (x ≤ y)).length = n := by rw [List.length_mergeSort]; exact hl
  have := Yba.slices_Sort_int g 0 cap zs w hH hgs (by omega)
  rw [hl] at this
  refine this.mono fun e w' ⟨he, q, os, hw⟩ => ?_
  subst hw
  have h1 := Lib.ownsRow_putRow (q := q) h hms (Nat.le_refl n)
  rw [List.take_of_length_le (by omega)] at h1
  have h2 : Below B w (Sort.putRow (Value.int .i64) (Sort.ahead w q) g 0 (zs.mergeSort fun x y => decide (x ≤ y)).toArray) := Lib.below_putRow (Below.refl _ _) hBg
  refine ⟨he, own_grow h1 os, below_grow h2 ?_ os⟩
  have := h2.size
  omega

theorem compact_own {B g n cap : Nat} {zs : List Int} {w : World} (h : w.ownsRow B 3 1 (.slice (some ⟨g, 0, none⟩) n cap) n (zs.map (Value.int .i64))) (hn : n ≤ 256) :
    Calls Yba.prog 6 #[.slice (some ⟨g, 0, none⟩) n cap] w fun e w' => e = .returned (.slice (some ⟨g, 0, none⟩) (Lib.compact zs).length cap) ∧ w'.ownsRow B 3 1 (.slice (some ⟨g, 0, none⟩) (Lib.compact zs).length cap) (Lib.compact zs).length ((Lib.compact zs).map (Value.int .i64)) ∧ Below B w w' := by
  obtain ⟨g', cap', e1, hBg, hgs, hnc, hcm, hl, hH⟩ := Lib.holds_of_ownsRow h (by simp)
  injection e1 with e1 _ e3
  injection e1 with e1
  injection e1 with e1
  subst e1; subst e3
  have hcl := Lib.compact_length_le zs
  have := Yba.slices_Compact_int g 0 cap zs w hH (by omega) (by omega)
  rw [hl] at this
  refine this.mono fun e w' ⟨he, q, hw⟩ => ?_
  subst hw
  have h1 := Lib.ownsRow_putRow (q := q) (ys := Lib.compact zs ++ List.replicate (n - (Lib.compact zs).length) 0) (k := (Lib.compact zs).length) h (by simp; omega) (by omega)
  rw [List.take_left] at h1
  exact ⟨he, h1, Lib.below_putRow (Below.refl _ _) hBg⟩
end Go.Proofs.Ybulkqnq

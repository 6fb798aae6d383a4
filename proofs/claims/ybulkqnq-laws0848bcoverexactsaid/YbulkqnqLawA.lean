/-
  The law's first part: its inputs, and the contracts of the three library calls at them.
-/
import Derived.Test.YbulkqnqCount
import Derived.Test.YbulkqnqCols
namespace Go.Proofs.Ybulkqnq
open Go.RowKit

def IsXs (w : World) (a : Option Addr) (len : Nat) (zs : List Int) : Prop :=
  zs.length = len ∧ (∀ z ∈ zs, z ≤ 9223372036854775807) ∧ (len = 0 ∨ ∃ b off, a = some ⟨b, off, none⟩ ∧ b < w.heap.size ∧ ∀ i, i < len → w.cell? ⟨b, off + i, none⟩ = some (.int .i64 (zs.getD i 0)))
def IsRuns (w : World) (a : Option Addr) (len : Nat) (R : Nat → Int × Int) : Prop :=
  len = 0 ∨ ∃ b off, a = some ⟨b, off, none⟩ ∧ b < w.heap.size ∧ ∀ i, i < len → w.cell? ⟨b, off + i * 2, none⟩ = some (.int .i64 (R i).1) ∧ w.cell? ⟨b, off + i * 2 + 1, none⟩ = some (.int .i64 (R i).2) ∧ -9223372036854775808 ≤ (R i).2

theorem clone_all {a : Option Addr} {len cap : Nat} {zs : List Int} {w : World} (h : IsXs w a len zs) (hl : len ≤ 256) :
    Calls Yba.prog 4 #[.slice a len cap] w fun e w' => ∃ v', e = .returned v' ∧ w'.ownsRow w.heap.size 3 1 v' len (zs.map (Value.int .i64)) ∧ Below w.heap.size w w' := by
  obtain ⟨h1, _, h3⟩ := h
  rcases Nat.eq_zero_or_pos len with rfl | hpos
  · obtain rfl : zs = [] := List.length_eq_zero_iff.1 h1
    cases a with
    | none => exact (Yba.slices_Clone_int_nil 0 cap w).mono fun e w' ⟨he, hw⟩ => ⟨_, he, World.ownsRow_nil _ _ _ _, by rw [hw]; exact Below.refl _ _⟩
    | some a => exact (Yba.slices_Clone_int_zero a cap w).mono fun e w' ⟨v, he, ho, _, hb⟩ => ⟨v, he, ho, hb⟩
  · obtain ⟨b, off, rfl, hb, hc⟩ := h3.resolve_left (by omega)
    refine (Yba.slices_Clone_int b off len cap zs w (by omega) (by omega) (fun j hj => hc j (by omega))).mono fun e w' ⟨v, he, ho, _, hb⟩ => ⟨v, he, ?_, hb⟩
    rw [List.take_of_length_le (by omega)] at ho
    exact ho

theorem sort_all {B n : Nat} {v : Value} {zs : List Int} {w : World} (h : w.ownsRow B 3 1 v n (zs.map (Value.int .i64))) (hn : n ≤ 256) :
    Calls Yba.prog 5 #[v] w fun e w' => e = .returned (.tuple #[]) ∧ w'.ownsRow B 3 1 v n ((zs.mergeSort fun x y => decide (x ≤ y)).map (Value.int .i64)) ∧ Below B w w' := by
  rcases Joins.ownsRow_forms h with ⟨rfl, rfl⟩ | ⟨g, cap, rfl⟩
  · obtain rfl : zs = [] := by simpa using h.1
    exact (Yba.slices_Sort_int_none none 0 w).mono fun e w' ⟨he, hw⟩ => ⟨he, by rw [hw]; simpa using h, by rw [hw]; exact Below.refl _ _⟩
  · exact sort_own h hn

theorem compact_all {B n : Nat} {v : Value} {zs : List Int} {w : World} (h : w.ownsRow B 3 1 v n (zs.map (Value.int .i64))) (hn : n ≤ 256) :
    Calls Yba.prog 6 #[v] w fun e w' => ∃ a cap, e = .returned (.slice a (Lib.compact zs).length cap) ∧ w'.ownsRow B 3 1 (.slice a (Lib.compact zs).length cap) (Lib.compact zs).length ((Lib.compact zs).map (Value.int .i64)) ∧ Below B w w' := by
  rcases Joins.ownsRow_forms h with ⟨rfl, rfl⟩ | ⟨g, cap, rfl⟩
  · obtain rfl : zs = [] := by simpa using h.1
    have e0 : Lib.compact ([] : List Int) = [] := rfl
    refine (Yba.slices_Compact_int_empty none 0 w).mono fun e w' ⟨he, hw⟩ => ⟨none, 0, he, ?_, by rw [hw]; exact Below.refl _ _⟩
    rw [e0, hw]
    exact World.ownsRow_nil _ _ _ _
  · exact (compact_own h hn).mono fun e w' ⟨he, ho, hb⟩ => ⟨_, _, he, ho, hb⟩

theorem cols_all {B : Nat} {a : Option Addr} {cap : Nat} {Z zs : List Int} {w : World} (hz : zs = colsOf Z) (h : w.ownsRow B 3 1 (.slice a zs.length cap) zs.length (zs.map (Value.int .i64))) (hl : Z.length ≤ 256) (hm : ∀ z ∈ Z, z ≤ 9223372036854775807) :
    Cols w.heap.size w a cap zs := by
  have hlen := cols_len Z
  rw [← hz] at hlen
  refine ⟨by omega, by rw [hz]; exact cols_inc Z, fun t ht => ?_, ?_⟩
  · apply hm
    apply cols_mem
    rw [← hz, getD_get ht]
    exact List.getElem_mem _
  · rcases Joins.ownsRow_forms h with ⟨_, h0⟩ | ⟨g, c, e⟩
    · exact .inl (List.length_eq_zero_iff.1 h0)
    · injection e with e1 _ e3
      subst e1; subst e3
      rcases h.2 with ⟨e, _⟩ | ⟨g', cap', cur, e, h1, h2, h3, _⟩
      · cases e
      · injection e with e1 _ e3
        injection e1 with e1
        injection e1 with e1
        subst e1; subst e3
        refine .inr ⟨g, rfl, lt_of_block h2, h3, fun j hj => ?_⟩
        rw [h.cellAt j (by omega), List.getElem?_map, List.getElem?_eq_getElem hj, getD_get hj]
        rfl
end Go.Proofs.Ybulkqnq

/-
  '(*endQueue).take' of a queue that holds an end: it returns the oldest at once; the rest stays in order.
-/
import Derived.Test.YbulkqkyDelete
namespace Go.Proofs.Ybulkqky
open Go.RowKit Go.Conc Go.MuLone

def TakePost (b c B n : Nat) (pv : Value) (z : SE) (L : List SE) (w : World) (e : Ending) (w' : World) : Prop :=
  e = .returned (.tuple #[.agg #[.string z.p, .string z.n, .string z.s, .int .i64 z.pid, .pointer z.a, .string z.run], .bool true]) ∧
    ∃ pv', w'.heap[b]? = some (qb 0 pv' c) ∧ w'.ownsRow B 28 6 pv' n (flat L) ∧ Kept (fun k => k = b ∨ pv.ownBlock = some k) w w'

set_option maxRecDepth 100000 in
set_option maxHeartbeats 1000000 in
theorem take_any (b c B n g cap : Nat) (z : SE) (L : List SE) (cv : Value) (w : World) (hL : L.length = n)
    (hq : w.heap[b]? = some (qb 0 (.slice (some ⟨g, 0, none⟩) (n + 1) cap) c)) (hown : w.ownsRow B 28 6 (.slice (some ⟨g, 0, none⟩) (n + 1) cap) (n + 1) (flat (z :: L))) :
    Calls Yba.prog 12 #[.pointer (some ⟨b, 0, none⟩), cv] w (TakePost b c B n (.slice (some ⟨g, 0, none⟩) (n + 1) cap) z L w) := by
  have hbl : b < w.heap.size := lt_of_block hq
  have hgl : g < w.heap.size := (hown.lt g rfl).2
  have hgb : g ≠ b := fun e => own_ne hown hq (by simp) (by simp [Value.ownBlock, e])
  go_enter Yba.func12, Yba.ntmps12
  go_wp2
  refine wp_loop_once ?_
  obtain ⟨N, hN⟩ : ∃ N, N = w.heap.size := ⟨_, rfl⟩
  obtain ⟨w1, hw1⟩ : ∃ w1, w1 = w.alloc (.cells #[.string ⟨#[]⟩, .string ⟨#[]⟩, .string ⟨#[]⟩, .int .i64 0, .pointer none, .string ⟨#[]⟩] 28) := ⟨_, rfl⟩
  rw [← hw1, ← hN]
  have hq1 : w1.heap[b]? = some (qb 0 (.slice (some ⟨g, 0, none⟩) (n + 1) cap) c) := by rw [hw1, Below.heap_alloc _ _ _ hbl]; exact hq
  have hown1 : w1.ownsRow B 28 6 (.slice (some ⟨g, 0, none⟩) (n + 1) cap) (n + 1) (flat (z :: L)) := by rw [hw1]; exact hown.alloc _
  have hx1 : w1.heap[N]? = some (.cells #[.string ⟨#[]⟩, .string ⟨#[]⟩, .string ⟨#[]⟩, .int .i64 0, .pointer none, .string ⟨#[]⟩] 28 (0, 0)) := by rw [hw1, hN]; exact heap_alloc_new _ _
  have hk1 : Kept (fun k => k = b ∨ (Value.slice (some ⟨g, 0, none⟩) (n + 1) cap).ownBlock = some k) w w1 := by rw [hw1]; exact (Kept.refl _ _).alloc _
  have c0 : w1.cell? ⟨b, 0, none⟩ = some (.int .i32 0) := by simp [World.cell?, hq1]
  have f0 : w1.frozen? ⟨b, 0, none⟩ = false := by simp [World.frozen?, hq1]
  have hbN : b ≠ N := by omega
  have hgN : g ≠ N := by omega
  clear hw1 hq hown
  have HN : Hid (N = w.heap.size) := hN
  clear hN
  go_wp2_with fail
  refine (lock_free Yba.muLib ⟨b, 0, none⟩ _ c0 f0).mono ?_
  rintro e w' ⟨rfl, rfl⟩
  obtain ⟨w2, hw2⟩ : ∃ w2, w2 = w1.setCell ⟨b, 0, none⟩ (.int .i32 1) := ⟨_, rfl⟩
  rw [← hw2]
  have hq2 : w2.heap[b]? = some (qb 1 (.slice (some ⟨g, 0, none⟩) (n + 1) cap) c) := by rw [hw2]; simpa using Joins.block_setCell (i := 0) hq1 (.int .i32 1)
  have hown2 : w2.ownsRow B 28 6 (.slice (some ⟨g, 0, none⟩) (n + 1) cap) (n + 1) (flat (z :: L)) := by rw [hw2]; exact ownsRow_setCell_other hown1 (own_ne hown1 hq1 (by simp)) _
  have hx2 : w2.heap[N]? = some (.cells #[.string ⟨#[]⟩, .string ⟨#[]⟩, .string ⟨#[]⟩, .int .i64 0, .pointer none, .string ⟨#[]⟩] 28 (0, 0)) := by rw [hw2, Below.heap_setCell _ _ _ _ (Ne.symm hbN)]; exact hx1
  have hk2 : Kept (fun k => k = b ∨ (Value.slice (some ⟨g, 0, none⟩) (n + 1) cap).ownBlock = some k) w w2 := by rw [hw2]; exact hk1.setCell (.inl rfl) _
  clear hw2 hq1 hown1 hx1 hk1 c0 f0
  have p2 : w2.cell? ⟨b, 2, none⟩ = some (.slice (some ⟨g, 0, none⟩) (n + 1) cap) := by simp [World.cell?, hq2]
  have hbl2 : b < w2.heap.size := lt_of_block hq2
  obtain ⟨y0, y1, y2, y3, y4, y5⟩ := own6 hown2 (by simp [hL]) 0 (by simp)
  simp only [List.getElem_cons_zero, Nat.zero_mul, Nat.zero_add] at y0 y1 y2 y3 y4 y5
  go_wp2_with fail
  refine (delete_any B g n cap z L _ hL (hown2.alloc _)).mono ?_
  rintro e w3 ⟨rfl, hown3, hgr3⟩
  obtain ⟨M, hM⟩ : ∃ M, M = w2.heap.size := ⟨_, rfl⟩
  have hNl : N < w2.heap.size := lt_of_block hx2
  have hgl2 : g < w2.heap.size := (hown2.lt g rfl).2
  have hq3 : w3.heap[b]? = some (qb 1 (.slice (some ⟨g, 0, none⟩) (n + 1) cap) c) := (hgr3.block b (by simp; omega) (by simp; omega)).trans ((Below.heap_alloc _ _ _ hbl2).trans hq2)
  have hx3 : w3.heap[N]? = some (.cells #[.string ⟨#[]⟩, .string ⟨#[]⟩, .string ⟨#[]⟩, .int .i64 0, .pointer none, .string ⟨#[]⟩] 28 (0, 0)) := (hgr3.block N (by simp; omega) (by simp; omega)).trans ((Below.heap_alloc _ _ _ hNl).trans hx2)
  have hy3 : w3.heap[M]? = some (.cells #[.string z.p, .string z.n, .string z.s, .int .i64 z.pid, .pointer z.a, .string z.run] 28 (0, 0)) := by
    rw [hM]
    exact (hgr3.block _ (by simp) (by simp; omega)).trans (heap_alloc_new _ _)
  have hk3 : Kept (fun k => k = b ∨ (Value.slice (some ⟨g, 0, none⟩) (n + 1) cap).ownBlock = some k) w w3 := (hk2.alloc _).grown hgr3 (fun k hk _ => .inr hk)
  have hMb : M ≠ b := by omega
  have hMg : M ≠ g := by omega
  have hMN : M ≠ N := by omega
  rw [← hM]
  clear hM hgr3 hq2 hown2 hx2 hk2 p2 y0 y1 y2 y3 y4 y5 hbl2 hNl hgl2
  have p3 : w3.cell? ⟨b, 2, none⟩ = some (.slice (some ⟨g, 0, none⟩) (n + 1) cap) := by simp [World.cell?, hq3]
  have z3 : w3.frozen? ⟨b, 2, none⟩ = false := by simp [World.frozen?, hq3]
  go_wp2_with fail
  obtain ⟨w4, hw4⟩ : ∃ w4, w4 = w3.setCell ⟨b, 2, none⟩ (.slice (some ⟨g, 0, none⟩) n cap) := ⟨_, rfl⟩
  rw [← hw4]
  have hq4 : w4.heap[b]? = some (qb 1 (.slice (some ⟨g, 0, none⟩) n cap) c) := by rw [hw4]; simpa using Joins.block_setCell (i := 2) hq3 (.slice (some ⟨g, 0, none⟩) n cap)
  have hown4 : w4.ownsRow B 28 6 (.slice (some ⟨g, 0, none⟩) n cap) n (flat L) := by rw [hw4]; exact ownsRow_setCell_other hown3 (own_ne hown3 hq3 (by simp)) _
  have hx4 : w4.heap[N]? = some (.cells #[.string ⟨#[]⟩, .string ⟨#[]⟩, .string ⟨#[]⟩, .int .i64 0, .pointer none, .string ⟨#[]⟩] 28 (0, 0)) := by rw [hw4, Below.heap_setCell _ _ _ _ (Ne.symm hbN)]; exact hx3
  have hy4 : w4.heap[M]? = some (.cells #[.string z.p, .string z.n, .string z.s, .int .i64 z.pid, .pointer z.a, .string z.run] 28 (0, 0)) := by rw [hw4, Below.heap_setCell _ _ _ _ hMb]; exact hy3
  have hk4 : Kept (fun k => k = b ∨ (Value.slice (some ⟨g, 0, none⟩) (n + 1) cap).ownBlock = some k) w w4 := by rw [hw4]; exact hk3.setCell (.inl rfl) _
  clear hw4 hq3 hown3 hx3 hy3 hk3 p3 z3
  have c4 : w4.cell? ⟨b, 0, none⟩ = some (.int .i32 1) := by simp [World.cell?, hq4]
  have f4 : w4.frozen? ⟨b, 0, none⟩ = false := by simp [World.frozen?, hq4]
  refine (unlock_held Yba.muLib ⟨b, 0, none⟩ _ c4 f4).mono ?_
  rintro e w' ⟨rfl, rfl⟩
  obtain ⟨w5, hw5⟩ : ∃ w5, w5 = w4.setCell ⟨b, 0, none⟩ (.int .i32 0) := ⟨_, rfl⟩
  rw [← hw5]
  have hq5 : w5.heap[b]? = some (qb 0 (.slice (some ⟨g, 0, none⟩) n cap) c) := by rw [hw5]; simpa using Joins.block_setCell (i := 0) hq4 (.int .i32 0)
  have hown5 : w5.ownsRow B 28 6 (.slice (some ⟨g, 0, none⟩) n cap) n (flat L) := by rw [hw5]; exact ownsRow_setCell_other hown4 (own_ne hown4 hq4 (by simp)) _
  have hx5 : w5.heap[N]? = some (.cells #[.string ⟨#[]⟩, .string ⟨#[]⟩, .string ⟨#[]⟩, .int .i64 0, .pointer none, .string ⟨#[]⟩] 28 (0, 0)) := by rw [hw5, Below.heap_setCell _ _ _ _ (Ne.symm hbN)]; exact hx4
  have hy5 : w5.heap[M]? = some (.cells #[.string z.p, .string z.n, .string z.s, .int .i64 z.pid, .pointer z.a, .string z.run] 28 (0, 0)) := by rw [hw5, Below.heap_setCell _ _ _ _ hMb]; exact hy4
  have hk5 : Kept (fun k => k = b ∨ (Value.slice (some ⟨g, 0, none⟩) (n + 1) cap).ownBlock = some k) w w5 := by rw [hw5]; exact hk4.setCell (.inl rfl) _
  clear hw5 hq4 hown4 hx4 hy4 hk4 c4 f4
  obtain ⟨b0, b1, b2, b3, b4, b5⟩ := box6_of hy5
  have x0 : w5.cell? ⟨N, 0, none⟩ = some (.string ⟨#[]⟩) := by simp [World.cell?, hx5]
  have x1 : w5.cell? ⟨N, 1, none⟩ = some (.string ⟨#[]⟩) := by simp [World.cell?, hx5]
  have x2 : w5.cell? ⟨N, 2, none⟩ = some (.string ⟨#[]⟩) := by simp [World.cell?, hx5]
  have x3 : w5.cell? ⟨N, 3, none⟩ = some (.int .i64 0) := by simp [World.cell?, hx5]
  have x4 : w5.cell? ⟨N, 4, none⟩ = some (.pointer none) := by simp [World.cell?, hx5]
  have x5 : w5.cell? ⟨N, 5, none⟩ = some (.string ⟨#[]⟩) := by simp [World.cell?, hx5]
  have v0 : w5.frozen? ⟨N, 0, none⟩ = false := by simp [World.frozen?, hx5]
  have v1 : w5.frozen? ⟨N, 1, none⟩ = false := by simp [World.frozen?, hx5]
  have v2 : w5.frozen? ⟨N, 2, none⟩ = false := by simp [World.frozen?, hx5]
  have v3 : w5.frozen? ⟨N, 3, none⟩ = false := by simp [World.frozen?, hx5]
  have v4 : w5.frozen? ⟨N, 4, none⟩ = false := by simp [World.frozen?, hx5]
  have v5 : w5.frozen? ⟨N, 5, none⟩ = false := by simp [World.frozen?, hx5]
  go_wp2
  have fin : ∀ w6, w6 = w5.setCells N 0 [.string z.p, .string z.n, .string z.s, .int .i64 z.pid, .pointer z.a, .string z.run] → Box6 w6 N z ∧
      TakePost b c B n (.slice (some ⟨g, 0, none⟩) (n + 1) cap) z L w (.returned (.tuple #[.agg #[.string z.p, .string z.n, .string z.s, .int .i64 z.pid, .pointer z.a, .string z.run], .bool true])) w6 := by
    intro w6 hw6
    have hgr := setCells_grown N [.string z.p, .string z.n, .string z.s, .int .i64 z.pid, .pointer z.a, .string z.run] 0 w5
    rw [← hw6] at hgr
    refine ⟨box6_of ?_, rfl, _, (hgr.block b (lt_of_block hq5) (by simp; omega)).trans hq5, hown5.kept hgr (.inr (by simp [Value.ownBlock]; omega)), hk5.grown hgr (fun k hk hlt => ?_)⟩
    · rw [hw6, setCells_block N 28 (0, 0) _ 0 w5 _ hx5 (by simp)]
      simp
    · simp at hk
      have := HN.out
      omega
  obtain ⟨w6, hw6⟩ : ∃ w6, w6 = w5.setCells N 0 [.string z.p, .string z.n, .string z.s, .int .i64 z.pid, .pointer z.a, .string z.run] := ⟨_, rfl⟩
  obtain ⟨⟨d0, d1, d2, d3, d4, d5⟩, hpost⟩ := fin w6 hw6
  simp only [World.setCells, Nat.zero_add, Nat.reduceAdd] at hw6
  rw [← hw6]
  exact bodyPost_ret (v := .tuple #[.agg #[.string z.p, .string z.n, .string z.s, .int .i64 z.pid, .pointer z.a, .string z.run], .bool true]) (by simp [results, Yba.results12, go_sem, d0, d1, d2, d3, d4, d5]) rfl hpost
end Go.Proofs.Ybulkqky

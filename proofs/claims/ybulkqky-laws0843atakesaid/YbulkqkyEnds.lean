/-
  The ends as plain data: a 'ZzS0843AEnd' that came in, a 'serviceEnd' that the call made; what a slice of the former looks like in memory.
-/
import Derived.Test.YbulkqkyAdd
namespace Go.Proofs.Ybulkqky
open Go.RowKit Go.Conc

/-- A 'ZzS0843AEnd'. -/
structure ZE where
  p : ByteArray
  n : ByteArray
  s : ByteArray
  pid : Int
  hr : Bool
  rn : ByteArray
  rp : Int
  rr : Int
  run : ByteArray

def ZE.cells (z : ZE) : List Value := [.string z.p, .string z.n, .string z.s, .int .i64 z.pid, .bool z.hr, .string z.rn, .int .i64 z.rp, .int .i64 z.rr, .string z.run]

/-- A 'serviceEnd'. -/
structure SE where
  p : ByteArray
  n : ByteArray
  s : ByteArray
  pid : Int
  a : Option Addr
  run : ByteArray

def SE.cells (z : SE) : List Value := [.string z.p, .string z.n, .string z.s, .int .i64 z.pid, .pointer z.a, .string z.run]

def flat (L : List SE) : List Value := L.flatMap SE.cells

theorem flat_length (L : List SE) : (flat L).length = L.length * 6 := by
  induction L with
  | nil => rfl
  | cons z L ih => simp only [flat, List.flatMap_cons, List.length_append, List.length_cons] at ih ⊢; rw [ih]; simp [SE.cells]; omega
theorem flat_snoc (L : List SE) (z : SE) : flat (L ++ [z]) = flat L ++ [.string z.p, .string z.n, .string z.s, .int .i64 z.pid, .pointer z.a, .string z.run] := by
  simp [flat, SE.cells]
theorem flat_get (L : List SE) (i : Nat) (h : i < L.length) (j : Nat) (hj : j < 6) : (flat L)[i * 6 + j]? = (L[i]).cells[j]? := by
  induction L generalizing i with
  | nil => simp at h
  | cons z L ih =>
    cases i with
    | zero =>
      simp only [flat, List.flatMap_cons, Nat.zero_mul, Nat.zero_add, List.getElem_cons_zero]
      rw [List.getElem?_append_left (by simp [SE.cells]; omega)]
    | succ i =>
      have := ih i (by simpa using h)
      simp only [flat, List.flatMap_cons, List.getElem_cons_succ] at this ⊢
      rw [List.getElem?_append_right (by simp [SE.cells]; omega), ← this]
      congr 1
      simp [SE.cells]; omega

/-- A slice of ends that came in: empty, or its cells lie there. -/
def IsEnds (w : World) (a : Option Addr) (len : Nat) (Z : Nat → ZE) : Prop :=
  len = 0 ∨ ∃ b off, a = some ⟨b, off, none⟩ ∧ b < w.heap.size ∧ ∀ i, i < len → ∀ j u, (Z i).cells[j]? = some u → w.cell? ⟨b, off + i * 9 + j, none⟩ = some u

/-- The nine cells of one end that came in, in a later world. -/
theorem ends9 {w wr : World} {N b off k : Nat} {z : ZE} (hb : Below N w wr) (hbN : b < N) (hc : ∀ j u, z.cells[j]? = some u → w.cell? ⟨b, off + k * 9 + j, none⟩ = some u) :
    wr.cell? ⟨b, off + k * 9, none⟩ = some (.string z.p) ∧ wr.cell? ⟨b, off + k * 9 + 1, none⟩ = some (.string z.n) ∧ wr.cell? ⟨b, off + k * 9 + 2, none⟩ = some (.string z.s) ∧
    wr.cell? ⟨b, off + k * 9 + 3, none⟩ = some (.int .i64 z.pid) ∧ wr.cell? ⟨b, off + k * 9 + 4, none⟩ = some (.bool z.hr) ∧ wr.cell? ⟨b, off + k * 9 + 5, none⟩ = some (.string z.rn) ∧
    wr.cell? ⟨b, off + k * 9 + 6, none⟩ = some (.int .i64 z.rp) ∧ wr.cell? ⟨b, off + k * 9 + 7, none⟩ = some (.int .i64 z.rr) ∧ wr.cell? ⟨b, off + k * 9 + 8, none⟩ = some (.string z.run) :=
  ⟨(hb.cell hbN).trans (hc 0 _ rfl), (hb.cell hbN).trans (hc 1 _ rfl), (hb.cell hbN).trans (hc 2 _ rfl), (hb.cell hbN).trans (hc 3 _ rfl), (hb.cell hbN).trans (hc 4 _ rfl),
    (hb.cell hbN).trans (hc 5 _ rfl), (hb.cell hbN).trans (hc 6 _ rfl), (hb.cell hbN).trans (hc 7 _ rfl), (hb.cell hbN).trans (hc 8 _ rfl)⟩

/-- What both loops keep: N: the heap's size at the call's beginning; the channel N, the queue N + 1, the copy's row N + 2. -/
structure Inv (N cap : Nat) (w : World) (k : Nat) (L : List SE) (wr : World) (pv : Value) (s : Nat) (buf : Array Value) : Prop where
  len : L.length = k
  q : wr.heap[N + 1]? = some (qb 0 pv N)
  pend : wr.ownsRow (N + 3) 28 6 pv k (flat L)
  ch : wr.heap[N]? = some (.chan 1 buf false s 0 false)
  all : wr.ownsRow (N + 2) 28 6 (.slice (some ⟨N + 2, 0, none⟩) k cap) k (flat L)
  below : Below N w wr
  size : N + 3 ≤ wr.heap.size
  bs : buf.size = min k 1

theorem grown_of_below {w w' : World} (h : Below w.heap.size w w') (row : Option Nat) : w.grownBy w' row :=
  ⟨h.os, h.tape, h.output, h.size, fun k hk _ => h.block k hk⟩

theorem Inv.later {N cap : Nat} {w wr w2 : World} {k : Nat} {L : List SE} {pv : Value} {s : Nat} {buf : Array Value} (h : Inv N cap w k L wr pv s buf) (hb : Below wr.heap.size wr w2) : Inv N cap w k L w2 pv s buf :=
  ⟨h.len, (hb.block _ (lt_of_block h.q)).trans h.q, h.pend.kept (grown_of_below hb none) (by cases hp : pv.ownBlock <;> simp), (hb.block _ (lt_of_block h.ch)).trans h.ch,
    h.all.kept (grown_of_below hb none) (.inr (by simp [Value.ownBlock])), h.below.trans (hb.mono (by have := h.size; omega)), Nat.le_trans h.size hb.size, h.bs⟩

/-- Between 'all = append(all, e)' and 'q.add(e)'. -/
structure Mid (N cap : Nat) (w : World) (k : Nat) (L : List SE) (z : SE) (wr : World) (pv : Value) (s : Nat) (buf : Array Value) : Prop where
  len : L.length = k
  q : wr.heap[N + 1]? = some (qb 0 pv N)
  pend : wr.ownsRow (N + 3) 28 6 pv k (flat L)
  ch : wr.heap[N]? = some (.chan 1 buf false s 0 false)
  all : wr.ownsRow (N + 2) 28 6 (.slice (some ⟨N + 2, 0, none⟩) (k + 1) cap) (k + 1) (flat (L ++ [z]))
  below : Below N w wr
  size : N + 3 ≤ wr.heap.size
  bs : buf.size = min k 1

/-- The six cells of the box in which a round keeps its end. -/
def Box6 (w : World) (n : Nat) (z : SE) : Prop :=
  w.cell? ⟨n, 0, none⟩ = some (.string z.p) ∧ w.cell? ⟨n, 1, none⟩ = some (.string z.n) ∧ w.cell? ⟨n, 2, none⟩ = some (.string z.s) ∧
  w.cell? ⟨n, 3, none⟩ = some (.int .i64 z.pid) ∧ w.cell? ⟨n, 4, none⟩ = some (.pointer z.a) ∧ w.cell? ⟨n, 5, none⟩ = some (.string z.run)

theorem box6_of {w : World} {n : Nat} {z : SE} (h : w.heap[n]? = some (.cells #[.string z.p, .string z.n, .string z.s, .int .i64 z.pid, .pointer z.a, .string z.run] 28 (0, 0))) : Box6 w n z := by
  refine ⟨?_, ?_, ?_, ?_, ?_, ?_⟩ <;> simp [World.cell?, h]

theorem new6' (w : World) (n : Nat) (hn : n = w.heap.size) (p nn sv : ByteArray) (pid : Int) (a : Option Addr) (run : ByteArray) : ∀ j u, ([.string p, .string nn, .string sv, .int .i64 pid, .pointer a, .string run] : List Value)[j]? = some u →
    (w.alloc (.cells #[.string p, .string nn, .string sv, .int .i64 pid, .pointer a, .string run] 28)).cell? ((⟨n, 0, none⟩ : Addr).add j) = some u := by
  subst hn
  exact new6 w p nn sv pid a run

theorem Inv.appended {N cap : Nat} {w w2 w3 : World} {k : Nat} {L : List SE} {z : SE} {pv : Value} {s : Nat} {buf : Array Value} {o : Obj} (h : Inv N cap w k L w2 pv s buf)
    (hg : ((w2.alloc (.cells #[.string z.p, .string z.n, .string z.s, .int .i64 z.pid, .pointer z.a, .string z.run] 28)).alloc o).grownBy w3 (some (N + 2)))
    (hown : w3.ownsRow (N + 2) 28 6 (.slice (some ⟨N + 2, 0, none⟩) (k + 1) cap) (k + 1) (flat L ++ [.string z.p, .string z.n, .string z.s, .int .i64 z.pid, .pointer z.a, .string z.run])) :
    Mid N cap w k L z w3 pv s buf ∧ Box6 w3 w2.heap.size z := by
  have hsz := h.size
  have hold : ∀ i, i < w2.heap.size → i ≠ N + 2 → w3.heap[i]? = w2.heap[i]? := fun i hi hne =>
    (hg.block i (by simp; omega) (by simpa using hne)).trans ((Below.heap_alloc _ _ _ (by simp; omega)).trans (Below.heap_alloc _ _ _ hi))
  have hpk : w2.grownBy w3 (some (N + 2)) :=
    ⟨hg.os, hg.tape, hg.output, Nat.le_trans (by simp; omega) hg.size, fun i hi hne => hold i hi (by simpa using hne)⟩
  refine ⟨⟨h.len, (hold _ (lt_of_block h.q) (by omega)).trans h.q, h.pend.kept hpk ?_, (hold _ (lt_of_block h.ch) (by omega)).trans h.ch, by rw [flat_snoc]; exact hown, h.below.grown hpk (by omega) (fun i hi => by simp at hi; omega), Nat.le_trans hsz hpk.size, h.bs⟩, ?_⟩
  · right
    intro e
    have := (h.pend.lt _ e).1
    omega
  · apply box6_of
    rw [hg.block _ (by simp; omega) (by simp; omega), Below.heap_alloc _ _ _ (by simp)]
    exact heap_alloc_new _ _

theorem Mid.added {N cap : Nat} {w w3 w4 : World} {k : Nat} {L : List SE} {z : SE} {pv : Value} {s : Nat} {buf : Array Value} {e : Ending} (h : Mid N cap w k L z w3 pv s buf)
    (hp : AddPost (N + 1) N (N + 3) k pv (flat L) buf 0 [.string z.p, .string z.n, .string z.s, .int .i64 z.pid, .pointer z.a, .string z.run] w3 e w4) :
    e = .returned (.tuple #[]) ∧ ∃ pv' s', Inv N cap w (k + 1) (L ++ [z]) w4 pv' s' (sent buf) := by
  obtain ⟨rfl, pv', s', hq, hown, hch, hk⟩ := hp
  have hsz := h.size
  refine ⟨rfl, pv', s', ⟨by simp [h.len], hq, by rw [flat_snoc]; exact hown, hch, ?_, ?_, Nat.le_trans hsz hk.size, ?_⟩⟩
  · refine ⟨h.all.1, ?_⟩
    rcases h.all.2 with ⟨e, _⟩ | ⟨g, cp, cur, e, hb, hg, rest⟩
    · simp at e
    · refine .inr ⟨g, cp, cur, e, hb, ?_, rest⟩
      simp only [Value.slice.injEq, Option.some.injEq, Addr.mk.injEq] at e
      obtain ⟨⟨rfl, _⟩, _⟩ := e
      rw [hk.block _ (lt_of_block hg) ?_]
      · exact hg
      · rintro (e | e | e)
        · omega
        · omega
        · have := (h.pend.lt _ e).1
          omega
  · exact Kept.below h.below hk (by omega) (by
      rintro i (e | e | e)
      · omega
      · omega
      · have := (h.pend.lt _ e).1
        omega)
  · have hbs := h.bs
    unfold sent
    split
    · rw [Array.size_push]; omega
    · omega

theorem Inv.drew {N cap : Nat} {w wr : World} {k : Nat} {L : List SE} {pv : Value} {s : Nat} {buf : Array Value} (h : Inv N cap w k L wr pv s buf) : Inv N cap w k L wr.drew pv s buf :=
  ⟨h.len, h.q, h.pend, h.ch, h.all, h.below.drew, h.size, h.bs⟩

theorem own_slice {w : World} {B e size n : Nat} {v : Value} {xs : List Value} (h : w.ownsRow B e size v n xs) : ∃ ao cp, v = .slice ao n cp := by
  rcases h.2 with ⟨rfl, rfl⟩ | ⟨g, cap', _, h, _⟩
  · exact ⟨none, 0, rfl⟩
  · exact ⟨_, cap', h⟩
theorem own_slice_pos {w : World} {B e size n : Nat} {v : Value} {xs : List Value} (h : w.ownsRow B e size v n xs) (hn : 0 < n) : ∃ g cp, v = .slice (some ⟨g, 0, none⟩) n cp := by
  rcases h.2 with ⟨_, h⟩ | ⟨g, cap', _, h, _⟩
  · omega
  · exact ⟨g, cap', h⟩

/-- The six cells of end i in a row of ends. -/
theorem own6 {w : World} {B n g cp : Nat} {L : List SE} (h : w.ownsRow B 28 6 (.slice (some ⟨g, 0, none⟩) n cp) n (flat L)) (hL : L.length = n) (i : Nat) (hi : i < L.length) :
    w.cell? ⟨g, i * 6, none⟩ = some (.string L[i].p) ∧ w.cell? ⟨g, i * 6 + 1, none⟩ = some (.string L[i].n) ∧ w.cell? ⟨g, i * 6 + 2, none⟩ = some (.string L[i].s) ∧
    w.cell? ⟨g, i * 6 + 3, none⟩ = some (.int .i64 L[i].pid) ∧ w.cell? ⟨g, i * 6 + 4, none⟩ = some (.pointer L[i].a) ∧ w.cell? ⟨g, i * 6 + 5, none⟩ = some (.string L[i].run) := by
  have key : ∀ j, j < 6 → w.cell? ⟨g, i * 6 + j, none⟩ = (L[i]).cells[j]? := fun j hj => by
    rw [h.cellAt (i * 6 + j) (by omega), flat_get L i hi j hj]
  exact ⟨key 0 (by omega), key 1 (by omega), key 2 (by omega), key 3 (by omega), key 4 (by omega), key 5 (by omega)⟩

end Go.Proofs.Ybulkqky

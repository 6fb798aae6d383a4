/-
  What the law's script of adds and takes keeps.
-/
import Derived.Test.YbulkqkyTake
namespace Go.Proofs.Ybulkqky
open Go.RowKit Go.Conc

/-- d ends taken, n in the queue; L: all that were added. -/
structure TInv (N C : Nat) (w : World) (d n : Nat) (L : List SE) (wr : World) (pv : Value) (s : Nat) (buf : Array Value) : Prop where
  len : L.length = d + n
  q : wr.heap[N + 1]? = some (qb 0 pv N)
  pend : wr.ownsRow (N + 3) 28 6 pv n (flat (L.drop d))
  ch : wr.heap[N]? = some (.chan 1 buf false s 0 false)
  all : wr.ownsRow (N + 2) 28 6 (.slice (some ⟨N + 2, 0, none⟩) (d + n) C) (d + n) (flat L)
  below : Below N w wr
  size : N + 3 ≤ wr.heap.size
  bs : buf.size = min (d + n) 1

section
variable {N C : Nat} {w wr w2 w3 w4 : World} {d n : Nat} {L : List SE} {pv : Value} {s : Nat} {buf : Array Value} {z : SE}

theorem TInv.start {w1 : World} (hown : w1.ownsRow (w.heap.size + 2) 28 6 (.slice (some ⟨w.heap.size + 2, 0, none⟩) 0 C) 0 []) (hg : (fresh w).grownBy w1 none) :
    TInv w.heap.size C w 0 0 [] w1 (.slice none 0 0) 0 #[] := by
  have hs : (fresh w).heap.size = w.heap.size + 2 := by simp [fresh]
  have e1 : (fresh w).heap[w.heap.size + 1]? = some (qb 0 (.slice none 0 0) w.heap.size) := by
    have := heap_alloc_new (w.alloc (.chan 1 #[] false 0 0 false)) (.cells #[.int .i32 0, .int .u32 0, .slice none 0 0, .chan (some w.heap.size)] 42)
    simpa [fresh] using this
  have e0 : (fresh w).heap[w.heap.size]? = some (.chan 1 #[] false 0 0 false) := by
    unfold fresh
    rw [Below.heap_alloc _ _ _ (by simp)]
    exact heap_alloc_new w _
  have hb : Below w.heap.size w (fresh w) := below_allocs2 w _ _
  refine ⟨rfl, (hg.block _ (by omega) (by simp)).trans e1, World.ownsRow_nil _ _ _ _, (hg.block _ (by omega) (by simp)).trans e0, hown, hb.grown hg (by omega) (by simp), ?_, rfl⟩
  have := (hown.lt (w.heap.size + 2) rfl).2
  omega

theorem TInv.drew (h : TInv N C w d n L wr pv s buf) : TInv N C w d n L wr.drew pv s buf :=
  ⟨h.len, h.q, h.pend, h.ch, h.all, h.below.drew, h.size, h.bs⟩

theorem TInv.later (h : TInv N C w d n L wr pv s buf) (hb : Below wr.heap.size wr w2) : TInv N C w d n L w2 pv s buf :=
  ⟨h.len, (hb.block _ (lt_of_block h.q)).trans h.q, h.pend.kept (grown_of_below hb none) (by cases hp : pv.ownBlock <;> simp), (hb.block _ (lt_of_block h.ch)).trans h.ch,
    h.all.kept (grown_of_below hb none) (.inr (by simp [Value.ownBlock])), h.below.trans (hb.mono (by have := h.size; omega)), Nat.le_trans h.size hb.size, h.bs⟩

theorem TInv.alloc (h : TInv N C w d n L wr pv s buf) (o : Obj) : TInv N C w d n L (wr.alloc o) pv s buf :=
  h.later ((Below.refl _ _).alloc (Nat.le_refl _) _)

/-- A row that is kept stays. -/
theorem own_kept {S : Nat → Prop} {B e size m : Nat} {v : Value} {xs : List Value} {u u' : World} (h : u.ownsRow B e size v m xs) (hk : Kept S u u') (hne : ∀ k, v.ownBlock = some k → ¬ S k) : u'.ownsRow B e size v m xs := by
  refine ⟨h.1, ?_⟩
  rcases h.2 with hn | ⟨g, cp, cur, rfl, hb, hg, rest⟩
  · exact .inl hn
  · refine .inr ⟨g, cp, cur, rfl, hb, ?_, rest⟩
    rw [hk.block _ (lt_of_block hg) (hne g rfl)]
    exact hg

/-- Between 'q.add(e)' and 'model = append(model, e)'. -/
structure TMid (N C : Nat) (w : World) (d n : Nat) (L : List SE) (z : SE) (wr : World) (pv : Value) (s : Nat) (buf : Array Value) : Prop where
  len : L.length = d + n
  q : wr.heap[N + 1]? = some (qb 0 pv N)
  pend : wr.ownsRow (N + 3) 28 6 pv (n + 1) (flat ((L ++ [z]).drop d))
  ch : wr.heap[N]? = some (.chan 1 buf false s 0 false)
  all : wr.ownsRow (N + 2) 28 6 (.slice (some ⟨N + 2, 0, none⟩) (d + n) C) (d + n) (flat L)
  below : Below N w wr
  size : N + 3 ≤ wr.heap.size
  bs : buf.size = 1

theorem TInv.added {e : Ending} (h : TInv N C w d n L w2 pv s buf)
    (hp : AddPost (N + 1) N (N + 3) n pv (flat (L.drop d)) buf 0 [.string z.p, .string z.n, .string z.s, .int .i64 z.pid, .pointer z.a, .string z.run] (w2.alloc (.cells #[.string z.p, .string z.n, .string z.s, .int .i64 z.pid, .pointer z.a, .string z.run] 28)) e w3) :
    e = .returned (.tuple #[]) ∧ ∃ pv' s', TMid N C w d n L z w3 pv' s' (sent buf) ∧ Box6 w3 w2.heap.size z := by
  obtain ⟨rfl, pv', s', hq, hown, hch, hk⟩ := hp
  have hsz := h.size
  have hA := h.alloc (.cells #[.string z.p, .string z.n, .string z.s, .int .i64 z.pid, .pointer z.a, .string z.run] 28)
  have hne : ∀ k, N + 2 = k ∨ k = w2.heap.size → ¬ (k = N + 1 ∨ k = N ∨ pv.ownBlock = some k) := by
    rintro k hk (e | e | e)
    · omega
    · omega
    · have := h.pend.lt _ e
      omega
  refine ⟨rfl, pv', s', ⟨h.len, hq, ?_, hch, own_kept hA.all hk ?_, ?_, Nat.le_trans hA.size hk.size, ?_⟩, ?_⟩
  · rw [List.drop_append_of_le_length (by have := h.len; omega), flat_snoc]
    exact hown
  · intro k hk'
    simp [Value.ownBlock] at hk'
    exact hne k (.inl hk')
  · exact Kept.below hA.below hk (by have := hA.size; omega) (by
      rintro i (e | e | e)
      · omega
      · omega
      · have := (h.pend.lt _ e).1
        omega)
  · have hbs := h.bs
    unfold sent
    split
    · rw [Array.size_push]; omega
    · omega
  · apply box6_of
    rw [hk.block _ (by simp) (hne _ (.inr rfl))]
    exact heap_alloc_new _ _

theorem TMid.appended (h : TMid N C w d n L z w3 pv s buf) (hC : d + n + 1 ≤ C) (o : Obj) :
    TInv N C w d (n + 1) (L ++ [z]) ((w3.alloc o).setCells (N + 2) ((d + n) * 6) [.string z.p, .string z.n, .string z.s, .int .i64 z.pid, .pointer z.a, .string z.run]) pv s buf := by
  have hsz := h.size
  have hg := setCells_grown (N + 2) [.string z.p, .string z.n, .string z.s, .int .i64 z.pid, .pointer z.a, .string z.run] ((d + n) * 6) (w3.alloc o)
  have hq := lt_of_block h.q
  have hc := lt_of_block h.ch
  have hall := h.all.alloc o
  refine ⟨by simp [h.len]; omega, (hg.block _ (by simp; omega) (by simp)).trans ((Below.heap_alloc _ _ _ hq).trans h.q), (h.pend.alloc o).kept hg ?_, (hg.block _ (by simp; omega) (by simp)).trans ((Below.heap_alloc _ _ _ hc).trans h.ch), ?_, ?_, ?_, ?_⟩
  · right
    intro e
    have := (h.pend.lt _ e).1
    omega
  · rcases hall.2 with ⟨e, _⟩ | ⟨g, cp, cur, e, hb, hgg, h1, h2, h3, h4⟩
    · simp at e
    · simp only [Value.slice.injEq, Option.some.injEq, Addr.mk.injEq, true_and, and_true] at e
      obtain ⟨rfl, rfl⟩ := e
      have hfl : (flat L).length = (d + n) * 6 := by rw [flat_length, h.len]
      have hbk := setCells_block (N + 2) 28 (0, 0) [.string z.p, .string z.n, .string z.s, .int .i64 z.pid, .pointer z.a, .string z.run] ((d + n) * 6) (w3.alloc o) cur hgg (by simp; omega)
      refine ⟨?_, .inr ⟨N + 2, C, _, rfl, Nat.le_refl _, hbk, by omega, h2, ?_, ?_⟩⟩
      · rw [flat_length]; simp [h.len]; omega
      · simp; omega
      · rw [h4, flat_snoc]
        have e6 : (d + (n + 1)) * 6 = (flat L ++ ([.string z.p, .string z.n, .string z.s, .int .i64 z.pid, .pointer z.a, .string z.run] : List Value)).length := by simp [hfl]; omega
        rw [e6]
        exact List.take_left
  · exact (h.below.alloc (by omega) o).grown hg (by simp; omega) (fun k hk => by simp at hk; omega)
  · have := hg.size
    simp at this
    omega
  · have := h.bs
    omega

theorem TMid.spare (h : TMid N C w d n L z w3 pv s buf) (hC : d + n + 1 ≤ C) (o : Obj) : ∀ j, j < 6 → ((w3.alloc o).cell? ⟨N + 2, d * 6 + n * 6 + j, none⟩).isSome = true ∧ (w3.alloc o).frozen? ⟨N + 2, d * 6 + n * 6 + j, none⟩ = false := by
  intro j hj
  have hall := h.all.alloc o
  rcases hall.2 with ⟨e, _⟩ | ⟨g, cp, cur, e, hb, hgg, h1, h2, h3, h4⟩
  · simp at e
  · simp only [Value.slice.injEq, Option.some.injEq, Addr.mk.injEq, true_and, and_true] at e
    obtain ⟨rfl, rfl⟩ := e
    refine ⟨?_, by simp [World.frozen?, hgg]⟩
    have : (w3.alloc o).cell? ⟨N + 2, d * 6 + n * 6 + j, none⟩ = cur[d * 6 + n * 6 + j]? := by simp only [World.cell?, hgg]; simp
    rw [this, Array.getElem?_eq_getElem (by omega)]
    rfl

theorem TInv.taken {g cp : Nat} {e : Ending} (h : TInv N C w d (n + 1) L wr (.slice (some ⟨g, 0, none⟩) (n + 1) cp) s buf) (hd : d < L.length)
    (hp : TakePost (N + 1) N (N + 3) n (.slice (some ⟨g, 0, none⟩) (n + 1) cp) L[d] (L.drop (d + 1)) wr e w2) :
    e = .returned (.tuple #[.agg #[.string L[d].p, .string L[d].n, .string L[d].s, .int .i64 L[d].pid, .pointer L[d].a, .string L[d].run], .bool true]) ∧ ∃ pv', TInv N C w (d + 1) n L w2 pv' s buf := by
  obtain ⟨rfl, pv', hq, hown, hk⟩ := hp
  have hsz := h.size
  have hgB := (h.pend.lt g rfl).1
  have e1 : d + 1 + n = d + (n + 1) := by omega
  refine ⟨rfl, pv', ⟨by have := h.len; omega, hq, hown, ?_, ?_, ?_, Nat.le_trans hsz hk.size, by rw [e1]; exact h.bs⟩⟩
  · rw [hk.block _ (lt_of_block h.ch) ?_]
    · exact h.ch
    · rintro (e | e)
      · omega
      · simp [Value.ownBlock] at e; omega
  · rw [e1]
    refine own_kept h.all hk ?_
    intro k hk'
    simp [Value.ownBlock] at hk'
    rintro (e | e)
    · omega
    · simp [Value.ownBlock] at e; omega
  · exact Kept.below h.below hk (by omega) (by
      rintro i (e | e)
      · omega
      · simp [Value.ownBlock] at e; omega)
end

/-- append WHERE THERE IS ROOM, onto a slice that begins anywhere in its block. -/
theorem wpList_append_mid {P : Program} (w : World) {ops : Array Oper} {rest : List Oper} {o : Oper} {a : Act} {Q : Exit → Act → World → Prop}
    (hg : o.guard = none) (s x : Operand) (t : TypeId) (hop : o.op = Op.call { callee := Callee.builtin Builtin.append, args := #[s, x], argTypes := #[t, t] })
    (e : TypeId) (i : TypeInfo) (size : Nat) (h1 : P.underlying t = some (.slice e)) (h2 : P.info? e = some i) (h4 : i.size = size)
    (b off n cap : Nat) (hs : a.eval s = .slice (some ⟨b, off, none⟩) n cap)
    (ad : Addr) (m c : Nat) (news : List Value) (hx : a.eval x = .slice (some ad) m c) (hn : news.length = m * size) (hc : ∀ j u, news[j]? = some u → w.cell? (ad.add j) = some u) (h1c : ∀ u ∈ news, u.oneCell' = true)
    (hroom : n + m ≤ cap) (hspare : ∀ j, j < news.length → (w.cell? ⟨b, off + n * size + j, none⟩).isSome = true ∧ w.frozen? ⟨b, off + n * size + j, none⟩ = false)
    (hK : ∀ w', Hid (w' = w.setCells b (off + n * size) news) → wpList P ops Q rest (a.put o.dst (.slice (some ⟨b, off, none⟩) (n + m) cap)) w') :
    wpList P ops Q (o :: rest) a w := by
  refine wpList_plain hg fun K hK' => ?_
  subst h4
  have hrun := run_append_room_cells (P := P) w t o.type e i h1 h2 b off n cap ad m c news hn hc h1c hroom (fun j hj => (hspare j hj).1) (fun j hj => (hspare j hj).2)
  unfold Oper.wp
  simp [execOp, hop, resolve, invoke, builtin, hs, hx, hrun, Result.andThen]
  exact hK' _ _ (hK _ rfl)

end Go.Proofs.Ybulkqky

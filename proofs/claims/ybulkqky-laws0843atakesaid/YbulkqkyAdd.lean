import Derived.Test.YbulkqkyLeaves
import Derived.Test.YbulkqkyLocks
import Derived.Test.YbulkqkySelect
import Derived.Conc.MuLone
import Derived.Lib.SmallJoins
namespace Go.Proofs.Ybulkqky
open Go.RowKit Go.Conc Go.MuLone

theorem info28 : (Yba.prog.info? 28).map (fun i => (i.zero, i.size, i.bytes)) = some (some (.agg #[.string ⟨#[]⟩, .string ⟨#[]⟩, .string ⟨#[]⟩, .int .i64 0, .pointer none, .string ⟨#[]⟩]), 6, 80) := by kernel_rfl

/-- All blocks that were there, but for those in S, are as they were. -/
structure Kept (S : Nat → Prop) (w w' : World) : Prop where
  os : w'.os = w.os
  tape : w'.tape = w.tape
  output : w'.output = w.output
  size : w.heap.size ≤ w'.heap.size
  block : ∀ k, k < w.heap.size → ¬ S k → w'.heap[k]? = w.heap[k]?

theorem Kept.refl (S : Nat → Prop) (w : World) : Kept S w w := ⟨rfl, rfl, rfl, Nat.le_refl _, fun _ _ _ => rfl⟩
theorem Kept.trans {S : Nat → Prop} {w w1 w2 : World} (h : Kept S w w1) (k : Kept S w1 w2) : Kept S w w2 :=
  ⟨k.os.trans h.os, k.tape.trans h.tape, k.output.trans h.output, Nat.le_trans h.size k.size, fun i hi hs => (k.block i (Nat.lt_of_lt_of_le hi h.size) hs).trans (h.block i hi hs)⟩
theorem Kept.wider {S S' : Nat → Prop} {w w' : World} (h : Kept S w w') (hS : ∀ k, k < w.heap.size → S k → S' k) : Kept S' w w' :=
  ⟨h.os, h.tape, h.output, h.size, fun i hi hs => h.block i hi (fun x => hs (hS i hi x))⟩
theorem Kept.alloc {S : Nat → Prop} {w w1 : World} (h : Kept S w w1) (o : Obj) : Kept S w (w1.alloc o) :=
  h.trans ⟨rfl, rfl, rfl, by simp, fun _ hk _ => Below.heap_alloc _ _ _ hk⟩
theorem Kept.setCell {S : Nat → Prop} {w w1 : World} (h : Kept S w w1) {p : Addr} (hp : S p.block) (u : Value) : Kept S w (w1.setCell p u) :=
  h.trans ⟨rfl, rfl, rfl, by simp [World.setCell], fun k _ hs => Below.heap_setCell _ _ _ _ (fun e => hs (e ▸ hp))⟩
theorem Kept.setChan {S : Nat → Prop} {w w1 : World} (h : Kept S w w1) {c : Nat} (hp : S c) (cap : Nat) (buf : Array Value) (cl : Bool) (s r : Nat) (tm : Bool) : Kept S w (w1.setChan c cap buf cl s r tm) :=
  h.trans ⟨rfl, rfl, rfl, by simp [World.setChan], fun k _ hs => by
    have : c ≠ k := fun e => hs (e ▸ hp)
    simp only [World.setChan]; rw [Array.getElem?_setIfInBounds_ne this]⟩
theorem Kept.grown {S : Nat → Prop} {w w1 w2 : World} {row : Option Nat} (h : Kept S w w1) (hg : w1.grownBy w2 row) (hr : ∀ k, row = some k → k < w.heap.size → S k) : Kept S w w2 :=
  ⟨hg.os.trans h.os, hg.tape.trans h.tape, hg.output.trans h.output, Nat.le_trans h.size hg.size, fun i hi hs =>
    (hg.block i (Nat.lt_of_lt_of_le hi h.size) (fun e => hs (hr i e.symm hi))).trans (h.block i hi hs)⟩
theorem Kept.drew {S : Nat → Prop} {w w1 : World} (h : Kept S w w1) : Kept S w w1.drew := ⟨h.os, h.tape, h.output, h.size, h.block⟩
theorem Kept.below {S : Nat → Prop} {B : Nat} {w0 w w' : World} (hb : Below B w0 w) (h : Kept S w w') (hB : B ≤ w.heap.size) (hS : ∀ k, S k → B ≤ k) : Below B w0 w' :=
  ⟨h.os.trans hb.os, h.tape.trans hb.tape, h.output.trans hb.output, Nat.le_trans hb.size h.size, fun k hk => (h.block k (by omega) (fun s => by have := hS k s; omega)).trans (hb.block k hk)⟩

/-- The queue's own block. -/
abbrev qb (m : Int) (pv : Value) (c : Nat) : Obj := .cells #[.int .i32 m, .int .u32 0, pv, .chan (some c)] 42 (0, 0)

/-- A row of ends is not a block of another make. -/
theorem own_ne {w : World} {B n : Nat} {pv : Value} {xs : List Value} {b : Nat} {o : Obj} (h : w.ownsRow B 28 6 pv n xs) (hb : w.heap[b]? = some o) (ho : ∀ cur fr, o ≠ .cells cur 28 fr) : pv.ownBlock ≠ some b := by
  intro e
  rcases h.2 with ⟨rfl, _⟩ | ⟨g, cap, cur, rfl, _, hg, _⟩
  · simp [Value.ownBlock] at e
  · simp [Value.ownBlock] at e
    subst e
    rw [hg] at hb
    simp at hb
    exact ho _ _ hb.symm
theorem ownsRow_setChan_other {w : World} {B e size n : Nat} {v : Value} {xs : List Value} {c cap : Nat} {buf : Array Value} {cl : Bool} {s r : Nat} {tm : Bool} (h : w.ownsRow B e size v n xs) (hne : v.ownBlock ≠ some c) : (w.setChan c cap buf cl s r tm).ownsRow B e size v n xs := by
  refine ⟨h.1, ?_⟩
  rcases h.2 with hn | ⟨g, cap', cur, rfl, hb, hgg, rest⟩
  · exact .inl hn
  · refine .inr ⟨g, cap', cur, rfl, hb, ?_, rest⟩
    have : c ≠ g := fun e => hne (by simp [Value.ownBlock, e])
    simp only [World.setChan]; rw [Array.getElem?_setIfInBounds_ne this]; exact hgg

/-- What the buffer holds behind a send that does not wait. -/
def sent (buf : Array Value) : Array Value := if buf.size < 1 then buf.push (.agg #[]) else buf

def AddPost (b c B n : Nat) (pv : Value) (xs : List Value) (buf : Array Value) (r : Nat) (es : List Value) (w : World) (e : Ending) (w' : World) : Prop :=
  e = .returned (.tuple #[]) ∧ ∃ pv' s', w'.heap[b]? = some (qb 0 pv' c) ∧ w'.ownsRow B 28 6 pv' (n + 1) (xs ++ es) ∧
    w'.heap[c]? = some (.chan 1 (sent buf) false s' r false) ∧ Kept (fun k => k = b ∨ k = c ∨ pv.ownBlock = some k) w w'

theorem new6 (w : World) (p nn sv : ByteArray) (pid : Int) (a : Option Addr) (run : ByteArray) : ∀ j u, ([.string p, .string nn, .string sv, .int .i64 pid, .pointer a, .string run] : List Value)[j]? = some u →
    (w.alloc (.cells #[.string p, .string nn, .string sv, .int .i64 pid, .pointer a, .string run] 28)).drew.cell? ((⟨w.heap.size, 0, none⟩ : Addr).add j) = some u := by
  intro j u hj
  have h := heap_alloc_new w (.cells #[.string p, .string nn, .string sv, .int .i64 pid, .pointer a, .string run] 28)
  show (w.alloc _).cell? _ = _
  rw [Addr.add_lit]
  simp only [World.cell?, h, Nat.zero_add]
  simpa using hj
theorem one6 (p nn sv : ByteArray) (pid : Int) (a : Option Addr) (run : ByteArray) : ∀ u ∈ ([.string p, .string nn, .string sv, .int .i64 pid, .pointer a, .string run] : List Value), u.oneCell' = true := by
  intro u hu
  simp at hu
  rcases hu with rfl | rfl | rfl | rfl | rfl | rfl <;> rfl
theorem own_form {w : World} {B e size n : Nat} {v : Value} {xs : List Value} (h : w.ownsRow B e size v (n + 1) xs) : ∃ g cap, v = .slice (some ⟨g, 0, none⟩) (n + 1) cap := by
  rcases h.2 with ⟨_, h⟩ | ⟨g, cap', _, h, _⟩
  · omega
  · exact ⟨g, cap', h⟩
theorem grown_q {w w' : World} {o : Obj} {row : Option Nat} {b c : Nat} {m : Int} {pv : Value} (hg : (w.alloc o).drew.grownBy w' row) (hq : w.heap[b]? = some (qb m pv c)) (hr : row ≠ some b) :
    w'.heap[b]? = some (qb m pv c) ∧ w'.cell? ⟨b, 2, none⟩ = some pv ∧ w'.frozen? ⟨b, 2, none⟩ = false := by
  have hb := lt_of_block hq
  have h : w'.heap[b]? = some (qb m pv c) := (hg.block b (by show b < (w.alloc o).heap.size; simp; omega) (Ne.symm hr)).trans ((Below.heap_alloc w o b hb).trans hq)
  exact ⟨h, by simp [World.cell?, h], by simp [World.frozen?, h]⟩

set_option maxHeartbeats 1000000 in
theorem add_any (b c B n : Nat) (pv : Value) (xs : List Value) (buf : Array Value) (s r : Nat) (p nn sv : ByteArray) (pid : Int) (a : Option Addr) (run : ByteArray) (w : World)
    (hq : w.heap[b]? = some (qb 0 pv c)) (hown : w.ownsRow B 28 6 pv n xs) (hc : w.heap[c]? = some (.chan 1 buf false s r false)) (hB : B ≤ w.heap.size) (hn : n ≤ 4096) :
    Calls Yba.prog 9 #[.pointer (some ⟨b, 0, none⟩), .agg #[.string p, .string nn, .string sv, .int .i64 pid, .pointer a, .string run]] w
      (AddPost b c B n pv xs buf r [.string p, .string nn, .string sv, .int .i64 pid, .pointer a, .string run] w) := by
  refine calls_of_wpN Yba.func9 rfl fun fb hfb => ?_
  simp only [Yba.ntmps9, List.size_toArray, List.length_cons, List.length_nil, Nat.reduceAdd, Nat.reduceSub, Array.replicate_succ,
     Array.replicate_zero, List.push_toArray, List.append_toArray, List.nil_append, List.cons_append]
  have hbl : b < w.heap.size := lt_of_block hq
  have hcl : c < w.heap.size := lt_of_block hc
  have c0 : w.cell? ⟨b, 0, none⟩ = some (.int .i32 0) := by simp [World.cell?, hq]
  have f0 : w.frozen? ⟨b, 0, none⟩ = false := by simp [World.frozen?, hq]
  refine WpN.seq_k fun K hK => ?_
  go_wp2
  obtain ⟨w1, hw1⟩ : ∃ w1, w1 = w.alloc (.cells #[.string p, .string nn, .string sv, .int .i64 pid, .pointer a, .string run] 28) := ⟨_, rfl⟩
  rw [← hw1]
  have hq1 : w1.heap[b]? = some (qb 0 pv c) := by rw [hw1, Below.heap_alloc _ _ _ hbl]; exact hq
  have hc1 : w1.heap[c]? = some (.chan 1 buf false s r false) := by rw [hw1, Below.heap_alloc _ _ _ hcl]; exact hc
  have hown1 : w1.ownsRow B 28 6 pv n xs := by rw [hw1]; exact hown.alloc _
  have hx1 : w1.heap[w.heap.size]? = some (.cells #[.string p, .string nn, .string sv, .int .i64 pid, .pointer a, .string run] 28 (0, 0)) := by rw [hw1]; exact heap_alloc_new _ _
  have hk1 : Kept (fun k => k = b ∨ k = c ∨ pv.ownBlock = some k) w w1 := by rw [hw1]; exact (Kept.refl _ _).alloc _
  have hB1 : B ≤ w1.heap.size := Nat.le_trans hB hk1.size
  obtain ⟨N, hNe⟩ : ∃ N, N = w.heap.size := ⟨_, rfl⟩
  rw [← hNe] at hx1
  rw [← hNe]
  have hbN : b ≠ N := by omega
  have hcb : c ≠ b := by rintro rfl; rw [hq] at hc; simp at hc
  clear hw1 hown hB c0 f0 hNe hq hc
  have c0 : w1.cell? ⟨b, 0, none⟩ = some (.int .i32 0) := by simp [World.cell?, hq1]
  have f0 : w1.frozen? ⟨b, 0, none⟩ = false := by simp [World.frozen?, hq1]
  refine WpN.seq_k fun K hK => ?_
  go_wp2_with (go_at_call 14; refine (lock_free Yba.muLib ⟨b, 0, none⟩ _ c0 f0).mono ?_; rintro e w' ⟨rfl, rfl⟩)
  obtain ⟨w2, hw2⟩ : ∃ w2, w2 = w1.setCell ⟨b, 0, none⟩ (.int .i32 1) := ⟨_, rfl⟩
  rw [← hw2]
  have hq2 : w2.heap[b]? = some (qb 1 pv c) := by rw [hw2]; simpa using Joins.block_setCell (i := 0) hq1 (.int .i32 1)
  have hc2 : w2.heap[c]? = some (.chan 1 buf false s r false) := by rw [hw2, Below.heap_setCell _ _ _ _ hcb]; exact hc1
  have hown2 : w2.ownsRow B 28 6 pv n xs := by rw [hw2]; exact ownsRow_setCell_other hown1 (own_ne hown1 hq1 (by simp)) _
  have hx2 : w2.heap[N]? = some (.cells #[.string p, .string nn, .string sv, .int .i64 pid, .pointer a, .string run] 28 (0, 0)) := by rw [hw2, Below.heap_setCell _ _ _ _ (Ne.symm hbN)]; exact hx1
  have hk2 : Kept (fun k => k = b ∨ k = c ∨ pv.ownBlock = some k) w w2 := by rw [hw2]; exact hk1.setCell (.inl rfl) _
  have hB2 : B ≤ w2.heap.size := Nat.le_trans hB1 (by rw [hw2]; simp [World.setCell])
  clear hw2 hq1 hc1 hown1 hx1 hk1 hB1 c0 f0
  -- 'q.pending = append(q.pending, e)'
  have hbl2 : b < w2.heap.size := lt_of_block hq2
  have p2 : w2.cell? ⟨b, 2, none⟩ = some pv := by simp [World.cell?, hq2]
  have z2 : w2.frozen? ⟨b, 2, none⟩ = false := by simp [World.frozen?, hq2]
  have x0 : w2.cell? ⟨N, 0, none⟩ = some (.string p) := by simp [World.cell?, hx2]
  have x1 : w2.cell? ⟨N, 1, none⟩ = some (.string nn) := by simp [World.cell?, hx2]
  have x2 : w2.cell? ⟨N, 2, none⟩ = some (.string sv) := by simp [World.cell?, hx2]
  have x3 : w2.cell? ⟨N, 3, none⟩ = some (.int .i64 pid) := by simp [World.cell?, hx2]
  have x4 : w2.cell? ⟨N, 4, none⟩ = some (.pointer a) := by simp [World.cell?, hx2]
  have x5 : w2.cell? ⟨N, 5, none⟩ = some (.string run) := by simp [World.cell?, hx2]
  obtain ⟨i0, hi, hz0, hz1, hz2⟩ := info_parts info28
  refine WpN.seq_k fun K hK => ?_
  go_region_law (refine step_append_own rfl (.tmp 12) (.tmp 14) 25 rfl B 28 i0 _ 6 80 Yba.underlying25 hi hz0 hz1 hz2 rfl (by decide) pv n xs rfl (hown2.alloc _) ⟨w2.heap.size, 0, none⟩ 1 1 [.string p, .string nn, .string sv, .int .i64 pid, .pointer a, .string run] rfl rfl (new6 _ _ _ _ _ _ _) (one6 _ _ _ _ _ _) (by unfold maxLen; omega) (by omega) (by simp; omega) ?_; intro v' w' hown' hgrow; obtain ⟨g, cap', rfl⟩ := own_form hown'; obtain ⟨r1, r2, r3⟩ := grown_q hgrow hq2 (own_ne hown2 hq2 (by simp)))
  all_goals
    refine hK _ _ ?_
    clear hK
    have hcB : c < (w2.alloc (.cells #[.string p, .string nn, .string sv, .int .i64 pid, .pointer a, .string run] 28)).drew.heap.size := by
      have := lt_of_block hc2
      show c < (w2.alloc _).heap.size
      simp; omega
    have hcp := own_ne hown2 hc2 (by simp)
    have hc3 : w'.heap[c]? = some (.chan 1 buf false s r false) := (hgrow.block c hcB (Ne.symm hcp)).trans ((Below.heap_alloc w2 _ c (lt_of_block hc2)).trans hc2)
    have hk3 : Kept (fun k => k = b ∨ k = c ∨ pv.ownBlock = some k) w w' := (hk2.alloc _).drew.grown hgrow (fun k hk _ => .inr (.inr hk))
    obtain ⟨v', hv'⟩ : ∃ v', v' = Value.slice (some ⟨g, 0, none⟩) (n + 1) cap' := ⟨_, rfl⟩
    rw [← hv']
    rw [← hv'] at hown'
    clear hv' hgrow hown2 hc2 hq2 hk2 hx2 p2 z2 x0 x1 x2 x3 x4 x5 hcB r2 r3
    obtain ⟨w4, hw4⟩ : ∃ w4, w4 = w'.setCell ⟨b, 2, none⟩ v' := ⟨_, rfl⟩
    rw [← hw4]
    have hq4 : w4.heap[b]? = some (qb 1 v' c) := by rw [hw4]; simpa using Joins.block_setCell (i := 2) r1 v'
    have hc4 : w4.heap[c]? = some (.chan 1 buf false s r false) := by rw [hw4, Below.heap_setCell _ _ _ _ hcb]; exact hc3
    have hown4 : w4.ownsRow B 28 6 v' (n + 1) (xs ++ [.string p, .string nn, .string sv, .int .i64 pid, .pointer a, .string run]) := by rw [hw4]; exact ownsRow_setCell_other hown' (own_ne hown' r1 (by simp)) _
    have hk4 : Kept (fun k => k = b ∨ k = c ∨ pv.ownBlock = some k) w w4 := by rw [hw4]; exact hk3.setCell (.inl rfl) _
    clear hw4 hown' hc3 hk3 r1
    have c0 : w4.cell? ⟨b, 0, none⟩ = some (.int .i32 1) := by simp [World.cell?, hq4]
    have f0 : w4.frozen? ⟨b, 0, none⟩ = false := by simp [World.frozen?, hq4]
    refine WpN.seq_k fun K hK => ?_
    go_wp2_with (go_at_call 15; refine (unlock_held Yba.muLib ⟨b, 0, none⟩ _ c0 f0).mono ?_; rintro e w' ⟨rfl, rfl⟩)
    obtain ⟨w5, hw5⟩ : ∃ w5, w5 = w4.setCell ⟨b, 0, none⟩ (.int .i32 0) := ⟨_, rfl⟩
    rw [← hw5]
    have hq5 : w5.heap[b]? = some (qb 0 v' c) := by rw [hw5]; simpa using Joins.block_setCell (i := 0) hq4 (.int .i32 0)
    have hc5 : w5.heap[c]? = some (.chan 1 buf false s r false) := by rw [hw5, Below.heap_setCell _ _ _ _ hcb]; exact hc4
    have hown5 : w5.ownsRow B 28 6 v' (n + 1) (xs ++ [.string p, .string nn, .string sv, .int .i64 pid, .pointer a, .string run]) := by rw [hw5]; exact ownsRow_setCell_other hown4 (own_ne hown4 hq4 (by simp)) _
    have hk5 : Kept (fun k => k = b ∨ k = c ∨ pv.ownBlock = some k) w w5 := by rw [hw5]; exact hk4.setCell (.inl rfl) _
    clear hw5 hown4 hc4 hk4 hq4 c0 f0
    have c3 : w5.cell? ⟨b, 3, none⟩ = some (.chan (some c)) := by simp [World.cell?, hq5]
    refine WpN.seq_k fun K hK => ?_
    go_wp2
    refine WpN.seq (WpN.select_send (c := c) (cap := 1) (buf := buf) (s := s) (r := r) (tm := false) (v := .agg #[]) (z := .agg #[]) hfb rfl ?_ hc5 ?_ ?_)
    · simp [go_sem, execOp, scase, Act.eval]
    · intro hsz
      have hq6 : (w5.setChan c 1 (buf.push (.agg #[])) false (s + 1) r false).heap[b]? = some (qb 0 v' c) := by
        simp only [World.setChan]; rw [Array.getElem?_setIfInBounds_ne hcb]; exact hq5
      have hc6 : (w5.setChan c 1 (buf.push (.agg #[])) false (s + 1) r false).heap[c]? = some (.chan 1 (sent buf) false (s + 1) r false) := by
        rw [show sent buf = buf.push (.agg #[]) from if_pos hsz]
        exact heap_setChan _ _ _ _ _ _ _ _ (lt_of_block hc5)
      have hown6 := ownsRow_setChan_other (c := c) (cap := 1) (buf := buf.push (.agg #[])) (cl := false) (s := s + 1) (r := r) (tm := false) hown5 (own_ne hown5 hc5 (by simp))
      have hk6 := hk5.setChan (c := c) (.inr (.inl rfl)) 1 (buf.push (.agg #[])) false (s + 1) r false
      have fin : AddPost b c B n pv xs buf r [.string p, .string nn, .string sv, .int .i64 pid, .pointer a, .string run] w (.returned (.tuple #[])) (w5.setChan c 1 (buf.push (.agg #[])) false (s + 1) r false) :=
        ⟨rfl, v', s + 1, hq6, hown6, hc6, hk6⟩
      clear hq6 hc6 hown6 hk6 hq5 hc5 hown5 hk5 c3
      generalize w5.setChan c 1 (buf.push (.agg #[])) false (s + 1) r false = w6 at *
      go_wp2
      refine WpN.of_wp ?_
      go_wp2
      go_end0
      exact fin
    · intro hsz
      have fin : AddPost b c B n pv xs buf r [.string p, .string nn, .string sv, .int .i64 pid, .pointer a, .string run] w (.returned (.tuple #[])) w5 :=
        ⟨rfl, v', s, hq5, hown5, by rw [show sent buf = buf from if_neg (by omega)]; exact hc5, hk5⟩
      clear hq5 hc5 hown5 hk5 c3
      go_wp2
      refine WpN.of_wp ?_
      go_wp2
      go_end0
      exact fin
end Go.Proofs.Ybulkqky

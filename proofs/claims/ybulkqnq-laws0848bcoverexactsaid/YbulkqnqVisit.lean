/-
  The stand-in visit (it logs every node), and coverRow with it.
-/
import Derived.Test.YbulkqnqRows
import Derived.Test.YbulkqnqPlain
import Derived.WalkKit
import Derived.WalkLawsBesides
import Derived.Deep.LoopGhost
import Derived.Lib.SmallJoins
namespace Go.Proofs.Ybulkqnq
open Go.RowKit

/-- All blocks that were there, but for those in S, are as they were. -/
structure Kept (S : Nat → Prop) (w w' : World) : Prop where
  os : w'.os = w.os
  tape : w'.tape = w.tape
  output : w'.output = w.output
  size : w.heap.size ≤ w'.heap.size
  block : ∀ k, k < w.heap.size → ¬ S k → w'.heap[k]? = w.heap[k]?
theorem Kept.refl (S : Nat → Prop) (w : World) : Kept S w w := ⟨rfl, rfl, rfl, Nat.le_refl _, fun _ _ _ => rfl⟩
theorem Kept.trans {S : Nat → Prop} {w w1 w2 : World} (h : Kept S w w1) (k : Kept S w1 w2) : Kept S w w2 :=
  ⟨k.os.trans h.os, k.tape.trans h.tape, k.output.trans h.output, Nat.le_trans h.size k.size, fun i hi hs => (k.block i (Nat.lt_of_lt_of_le hi h.size) hs).trans (h.block i hi hs)⟩
theorem Kept.wider {S S' : Nat → Prop} {w w' : World} (h : Kept S w w') (hS : ∀ k, k < w.heap.size → S k → S' k) : Kept S' w w' :=
  ⟨h.os, h.tape, h.output, h.size, fun i hi hs => h.block i hi (fun x => hs (hS i hi x))⟩
theorem Kept.alloc {S : Nat → Prop} {w w1 : World} (h : Kept S w w1) (o : Obj) : Kept S w (w1.alloc o) :=
  h.trans ⟨rfl, rfl, rfl, by simp, fun _ hk _ => Below.heap_alloc _ _ _ hk⟩
theorem Kept.setCell {S : Nat → Prop} {w w1 : World} (h : Kept S w w1) {p : Addr} (hp : S p.block) (u : Value) : Kept S w (w1.setCell p u) :=
  h.trans ⟨rfl, rfl, rfl, by simp [World.setCell], fun k _ hs => Below.heap_setCell _ _ _ _ (fun e => hs (e ▸ hp))⟩
theorem Kept.grown {S : Nat → Prop} {w w1 w2 : World} {row : Option Nat} (h : Kept S w w1) (hg : w1.grownBy w2 row) (hr : ∀ k, row = some k → k < w.heap.size → S k) : Kept S w w2 :=
  ⟨hg.os.trans h.os, hg.tape.trans h.tape, hg.output.trans h.output, Nat.le_trans h.size hg.size, fun i hi hs =>
    (hg.block i (Nat.lt_of_lt_of_le hi h.size) (fun e => hs (hr i e.symm hi))).trans (h.block i hi hs)⟩
theorem Kept.drew {S : Nat → Prop} {w w1 : World} (h : Kept S w w1) : Kept S w w1.drew := ⟨h.os, h.tape, h.output, h.size, h.block⟩
theorem Kept.below {S : Nat → Prop} {B : Nat} {w0 w w' : World} (hb : Below B w0 w) (h : Kept S w w') (hB : B ≤ w.heap.size) (hS : ∀ k, S k → B ≤ k) : Below B w0 w' :=
  ⟨h.os.trans hb.os, h.tape.trans hb.tape, h.output.trans hb.output, Nat.le_trans hb.size h.size, fun k hk => (h.block k (by omega) (fun s => by have := hS k s; omega)).trans (hb.block k hk)⟩

theorem info3 : (Yba.prog.info? 3).map (fun i => (i.zero, i.size, i.bytes)) = some (some (.int .i64 0), 1, 8) := by kernel_rfl

/-- The log so far: variable lb; its row lies from B on. -/
def Log (lb B : Nat) (w : World) (log : List Nat) : Prop :=
  lb < B ∧ B ≤ w.heap.size ∧ ∃ v, w.heap[lb]? = some (.cells #[v] 22 (0, 0)) ∧ w.ownsRow B 3 1 v log.length (log.map fun (x : Nat) => Value.int .i64 (x : Int))

/-- What a visit may turn. -/
abbrev LogS (lb B : Nat) : Nat → Prop := fun k => k = lb ∨ B ≤ k

theorem new1 (w : World) (v : Value) (t : TypeId) (n : Nat) (hn : n = w.heap.size) : ∀ j u, ([v] : List Value)[j]? = some u → (w.alloc (.cells #[v] t)).cell? ((⟨n, 0, none⟩ : Addr).add j) = some u := by
  subst hn
  intro j u hj
  have h := heap_alloc_new w (.cells #[v] t)
  rw [Addr.add_lit]
  simp only [World.cell?, h, Nat.zero_add]
  simpa using hj
theorem one1 (k : IntKind) (a : Int) : ∀ u ∈ ([.int k a] : List Value), u.oneCell' = true := by
  intro u hu
  simp at hu
  subst hu
  rfl
theorem own_form {w : World} {B e size n : Nat} {v : Value} {xs : List Value} (h : w.ownsRow B e size v (n + 1) xs) : ∃ g cap, v = .slice (some ⟨g, 0, none⟩) (n + 1) cap ∧ B ≤ g := by
  rcases h.2 with ⟨_, h⟩ | ⟨g, cap', _, h, h2, _⟩
  · omega
  · exact ⟨g, cap', h, h2⟩
theorem own_row {w : World} {B e size n : Nat} {v : Value} {xs : List Value} (h : w.ownsRow B e size v n xs) : ∀ k, v.ownBlock = some k → B ≤ k := fun k hk => (h.lt k hk).1

set_option maxHeartbeats 400000 in
theorem visit_any (lb B : Nat) (log : List Nat) (x : Nat) (w : World) (h : Log lb B w log) (hlen : log.length ≤ 1000000) :
    Calls Yba.prog 8 #[.int .i64 (x : Int), .pointer (some ⟨lb, 0, none⟩)] w fun e w' => e = .returned (.tuple #[]) ∧ Log lb B w' (log ++ [x]) ∧ Kept (LogS lb B) w w' := by
  obtain ⟨hlb, hB, v, hv, hown⟩ := h
  obtain ⟨i0, hi, hz0, hz1, hz2⟩ := info_parts info3
  have c0 := cell_of_one hv
  have f0 := free_of_one hv
  go_enter Yba.func8, Yba.ntmps8
  go_wp2_with (at_builtin; refine wpList_append_own _ rfl (.tmp 3) (.tmp 5) 22 rfl B 3 i0 (.int .i64 0) 1 8 Yba.underlying22 hi hz0 hz1 hz2 rfl (by decide) v log.length _ rfl (hown.alloc _) ⟨w.heap.size, 0, none⟩ 1 1 [.int .i64 (x : Int)] rfl rfl (new1 _ _ _ _ rfl) (one1 _ _) (by unfold maxLen; omega) (by omega) (by simp; omega) ?_)
  intro v' w1 hown1 hgrow1 _
  obtain ⟨g, cap, rfl, hgB⟩ := own_form hown1
  have hv1 : w1.heap[lb]? = some (.cells #[v] 22 (0, 0)) :=
    (hgrow1.block lb (by simp; omega) (fun e => by have := own_row hown lb e.symm; omega)).trans ((Below.heap_alloc _ _ _ (by omega)).trans hv)
  have hk1 : Kept (LogS lb B) w w1 := ((Kept.refl _ _).alloc _).grown hgrow1 (fun k hk _ => .inr (own_row hown k hk))
  have c1 := cell_of_one hv1
  have f1 := free_of_one hv1
  have fin : Log lb B (w1.setCell ⟨lb, 0, none⟩ (.slice (some ⟨g, 0, none⟩) (log.length + 1) cap)) (log ++ [x]) ∧ Kept (LogS lb B) w (w1.setCell ⟨lb, 0, none⟩ (.slice (some ⟨g, 0, none⟩) (log.length + 1) cap)) := by
    refine ⟨⟨hlb, ?_, _, one_setCell hv1, ?_⟩, hk1.setCell (p := ⟨lb, 0, none⟩) (.inl rfl) _⟩
    · have := hk1.size
      simp [World.setCell]
      omega
    · have := ownsRow_setCell_other hown1 (a := ⟨lb, 0, none⟩) (by simp [Value.ownBlock]; omega) (.slice (some ⟨g, 0, none⟩) (log.length + 1) cap)
      simpa using this
  clear hown1 hgrow1 hown hk1 hv hv1
  go_wp2
  go_end0
  exact ⟨rfl, fin⟩
end Go.Proofs.Ybulkqnq

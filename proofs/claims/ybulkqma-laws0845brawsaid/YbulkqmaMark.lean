/-
  The leaves of 'spill': a mark; a mark stored; a mark added.
-/
import Derived.Test.YbulkqmaRows
import Derived.WalkKit
import Derived.WalkLawsBesides
import Derived.Laws.BitsAllLaws
import Derived.Lib.SmallJoins
namespace Go.Proofs.Ybulkqma
open Go.RowKit

/-- What 'markAt(x, 0)' reckons. -/
def markv (x : Int) : Int := bits BinOp.or IntKind.u64 (IntKind.u64.wrap (IntKind.u64.wrap x * 4)) 0
theorem markv_eq (x : Int) : markv x = (x * 4) % 18446744073709551616 := by
  unfold markv
  have e : IntKind.u64.wrap (IntKind.u64.wrap x * 4) = (x * 4) % 18446744073709551616 := by
    rw [IntKind.wrap_u64, IntKind.wrap_u64]
    omega
  rw [e, u64_or _ _ (Int.emod_nonneg _ (by decide)) (Int.emod_lt_of_pos _ (by decide)) (by decide) (by decide)]
  have : (0 : Int).toNat = 0 := rfl
  rw [this, Nat.or_zero, Int.toNat_of_nonneg (Int.emod_nonneg _ (by decide))]
/-- What lies in the block of marks for the place x. -/
def lowv (x : Int) : Int := IntKind.u32.wrap (markv x)
theorem lowv_eq (x : Int) : lowv x = IntKind.u32.wrap (IntKind.u32.wrap x * 4) := by
  unfold lowv
  rw [markv_eq]
  simp only [IntKind.wrap, IntKind.bits, IntKind.signed]
  simp
  omega

set_option maxHeartbeats 400000 in
theorem mark_any (x : Int) (w : World) :
    Calls Yba.prog 11 #[.int .i64 x, .int .i64 0] w fun e w' => e = .returned (.int .u64 (markv x)) ∧ w' = w := by
  go_enter Yba.func11, Yba.ntmps11
  go_wp2
  go_ret
  exact ⟨rfl, rfl⟩

set_option maxHeartbeats 400000 in
theorem set_any (b g p : Nat) (cp : Nat) (k : Nat) (x v : Int) (w : World) (hk : k < 16)
    (c0 : w.cell? ⟨b, 20, none⟩ = some (.slice (some ⟨g, 0, none⟩) 1 cp)) (c2 : w.cell? ⟨b, 22, none⟩ = some (.bool false))
    (cg : w.cell? ⟨g, 0, none⟩ = some (.pointer (some ⟨p, 0, none⟩))) (cpk : w.cell? ⟨p, k, none⟩ = some (.int .u32 v)) (fpk : w.frozen? ⟨p, k, none⟩ = false) :
    Calls Yba.prog 14 #[.pointer (some ⟨b, 20, none⟩), .int .i64 k, .int .u64 (markv x)] w fun e w' => e = .returned (.tuple #[]) ∧ w' = w.setCell ⟨p, k, none⟩ (.int .u32 (lowv x)) := by
  have e1 : k / 1024 = 0 := by omega
  have e2 : k % 1024 = k := by omega
  go_enter Yba.func14, Yba.ntmps14
  go_wp2
  go_end0
  exact ⟨rfl, rfl⟩

/-- The 1,024 zero marks of a new block, behind a name. -/
def z1024 : Array Value := Array.replicate 1024 (.int .u32 0)
theorem zero58 (w : World) : (zeroValue 58).run Yba.prog w = .ok (.agg z1024) w := by kernel_rfl

/-- The thirty cells of a 'level'. -/
def lvCells (n kn : Int) (kv low la : Value) (sp od : Bool) (A : Nat → Int) : Array Value :=
  #[.bool true, .int .i64 n, kv, .int .i64 (A 0), .int .i64 (A 1), .int .i64 (A 2), .int .i64 (A 3), .int .i64 (A 4), .int .i64 (A 5), .int .i64 (A 6), .int .i64 (A 7), .int .i64 (A 8), .int .i64 (A 9), .int .i64 (A 10), .int .i64 (A 11), .int .i64 (A 12), .int .i64 (A 13), .int .i64 (A 14), .int .i64 (A 15), .bool sp, low, .slice none 0 0, .bool false, .int .i64 kn, .bool od, la, .slice none 0 0, .slice none 0 0, .slice none 0 0, .int .i64 0]
abbrev lvb (n kn : Int) (kv low la : Value) (sp od : Bool) (A : Nat → Int) : Obj := .cells (lvCells n kn kv low la sp od A) 37 (0, 0)

theorem lv_first (n kn : Int) (kv low la : Value) (sp od : Bool) (A : Nat → Int) (i : Nat) (hi : i < 16) : (lvCells n kn kv low la sp od A)[3 + i]? = some (.int .i64 (A i)) := by
  match i, hi with
  | 0, _ => rfl
  | 1, _ => rfl
  | 2, _ => rfl
  | 3, _ => rfl
  | 4, _ => rfl
  | 5, _ => rfl
  | 6, _ => rfl
  | 7, _ => rfl
  | 8, _ => rfl
  | 9, _ => rfl
  | 10, _ => rfl
  | 11, _ => rfl
  | 12, _ => rfl
  | 13, _ => rfl
  | 14, _ => rfl
  | 15, _ => rfl
  | i + 16, h => exact absurd h (by omega)

/-- All blocks that were there, but for those in S, are as they were. -/
structure Kept (S : Nat → Prop) (w w' : World) : Prop where
  os : w'.os = w.os
  tape : w'.tape = w.tape
  output : w'.output = w.output
  size : w.heap.size ≤ w'.heap.size
  block : ∀ k, k < w.heap.size → ¬ S k → w'.heap[k]? = w.heap[k]?
theorem Kept.refl (S : Nat → Prop) (w : World) : Kept S w w := ⟨rfl, rfl, rfl, Nat.le_refl _, fun _ _ _ => rfl⟩
theorem Kept.trans {S : Nat → Prop} {w w1 w2 : World} (h : Kept S w w1) (k : Kept S w1 w2) : Kept S w w2 :=
  ⟨k.os.trans h.os, k.tape.trans h.tape, k.output.trans h.output, Nat.le_trans h.size k.size, fun i hi hs => (k.block i (Nat.lt_of_lt_of_le hi h.size) hs).trans (h.block i hi hs)⟩
theorem Kept.wider {S S' : Nat → Prop} {w w' : World} (h : Kept S w w') (hS : ∀ k, k < w.heap.size → S k → S' k) : Kept S' w w' :=
  ⟨h.os, h.tape, h.output, h.size, fun i hi hs => h.block i hi (fun x => hs (hS i hi x))⟩
theorem Kept.alloc {S : Nat → Prop} {w w1 : World} (h : Kept S w w1) (o : Obj) : Kept S w (w1.alloc o) :=
  h.trans ⟨rfl, rfl, rfl, by simp, fun _ hk _ => Below.heap_alloc _ _ _ hk⟩
theorem Kept.setCell {S : Nat → Prop} {w w1 : World} (h : Kept S w w1) {p : Addr} (hp : S p.block) (u : Value) : Kept S w (w1.setCell p u) :=
  h.trans ⟨rfl, rfl, rfl, by simp [World.setCell], fun k _ hs => Below.heap_setCell _ _ _ _ (fun e => hs (e ▸ hp))⟩
theorem Kept.grown {S : Nat → Prop} {w w1 w2 : World} {row : Option Nat} (h : Kept S w w1) (hg : w1.grownBy w2 row) (hr : ∀ k, row = some k → k < w.heap.size → S k) : Kept S w w2 :=
  ⟨hg.os.trans h.os, hg.tape.trans h.tape, hg.output.trans h.output, Nat.le_trans h.size hg.size, fun i hi hs =>
    (hg.block i (Nat.lt_of_lt_of_le hi h.size) (fun e => hs (hr i e.symm hi))).trans (h.block i hi hs)⟩
theorem Kept.drew {S : Nat → Prop} {w w1 : World} (h : Kept S w w1) : Kept S w w1.drew := ⟨h.os, h.tape, h.output, h.size, h.block⟩
theorem Kept.below {S : Nat → Prop} {B : Nat} {w0 w w' : World} (hb : Below B w0 w) (h : Kept S w w') (hB : B ≤ w.heap.size) (hS : ∀ k, S k → B ≤ k) : Below B w0 w' :=
  ⟨h.os.trans hb.os, h.tape.trans hb.tape, h.output.trans hb.output, Nat.le_trans hb.size h.size, fun k hk => (h.block k (by omega) (fun s => by have := hS k s; omega)).trans (hb.block k hk)⟩

/-- The block of marks p, which the row g leads to: the first k hold the marks of X. -/
structure Marks (w : World) (g p k : Nat) (X : Nat → Int) : Prop where
  lead : w.heap[g]?.isSome = true
  cg : w.cell? ⟨g, 0, none⟩ = some (.pointer (some ⟨p, 0, none⟩))
  cells : ∀ j, j < 16 → w.cell? ⟨p, j, none⟩ = some (.int .u32 (if j < k then lowv (X j) else 0))
  fro : ∀ j, j < 16 → w.frozen? ⟨p, j, none⟩ = false

theorem Marks.kept {w w' : World} {g p k : Nat} {X : Nat → Int} (h : Marks w g p k X) (hg : w'.heap[g]? = w.heap[g]?) (hp : w'.heap[p]? = w.heap[p]?) : Marks w' g p k X :=
  ⟨by rw [hg]; exact h.lead, (World.cell?_of_block (a := ⟨g, 0, none⟩) hg).trans h.cg, fun j hj => (World.cell?_of_block (a := ⟨p, j, none⟩) hp).trans (h.cells j hj), fun j hj => (World.frozen?_of_block (a := ⟨p, j, none⟩) hp).trans (h.fro j hj)⟩

theorem Marks.stored {w : World} {g p k : Nat} {X : Nat → Int} (h : Marks w g p k X) (hgp : g ≠ p) (hk : k < 16) : Marks (w.drew.setCell ⟨p, k, none⟩ (.int .u32 (lowv (X k)))) g p (k + 1) X := by
  have hgh : (w.drew.setCell ⟨p, k, none⟩ (.int .u32 (lowv (X k)))).heap[g]? = w.heap[g]? := Below.heap_setCell _ _ _ _ hgp
  refine ⟨by rw [hgh]; exact h.lead, (World.cell?_of_block (w := w) (a := ⟨g, 0, none⟩) hgh).trans h.cg, fun j hj => ?_, fun j hj => ?_⟩
  · by_cases e : j = k
    · subst e
      rw [World.cell?_setCell_same w.drew ⟨p, j, none⟩ _ (h.cells j hj), if_pos (by omega)]
    · rw [World.cell?_setCell_other w.drew ⟨p, k, none⟩ ⟨p, j, none⟩ _ (fun h => e (by injection h with h1 h2; exact h2.symm))]
      show w.cell? _ = _
      rw [h.cells j hj]
      by_cases e2 : j < k
      · rw [if_pos e2, if_pos (by omega)]
      · rw [if_neg e2, if_neg (by omega)]
  · have := h.fro j hj
    simp [this]

def AddPost (b g p k : Nat) (n : Int) (kv la : Value) (sp od : Bool) (A X : Nat → Int) (S : Nat → Prop) (w : World) (e : Ending) (w' : World) : Prop :=
  e = .returned (.tuple #[]) ∧ ∃ cp, w'.heap[b]? = some (lvb n (k + 1 : Nat) kv (.slice (some ⟨g, 0, none⟩) 1 cp) la sp od A) ∧ Marks w' g p (k + 1) X ∧ Kept S w w'

set_option maxHeartbeats 1000000 in
theorem add_next (b g p k cp : Nat) (n : Int) (kv la : Value) (sp od : Bool) (A X : Nat → Int) (w : World) (hk0 : 0 < k) (hk : k < 16)
    (hq : w.heap[b]? = some (lvb n (k : Nat) kv (.slice (some ⟨g, 0, none⟩) 1 cp) la sp od A)) (hM : Marks w g p k X) (hgb : g ≠ b) (hpb : p ≠ b) (hgp : g ≠ p) :
    Calls Yba.prog 10 #[.pointer (some ⟨b, 20, none⟩), .int .u64 (markv (X k))] w (AddPost b g p k n kv la sp od A X (fun i => i = b ∨ i = p) w) := by
  have c0 : w.cell? ⟨b, 20, none⟩ = some (.slice (some ⟨g, 0, none⟩) 1 cp) := by simp [World.cell?, hq, lvCells]
  have c2 : w.cell? ⟨b, 22, none⟩ = some (.bool false) := by simp [World.cell?, hq, lvCells]
  have c3 : w.cell? ⟨b, 23, none⟩ = some (.int .i64 k) := by simp [World.cell?, hq, lvCells]
  have f3 : w.frozen? ⟨b, 23, none⟩ = false := by simp [World.frozen?, hq]
  have cgp := hM.cg
  have cpk : w.cell? ⟨p, k, none⟩ = some (.int .u32 0) := by rw [hM.cells k hk, if_neg (by omega)]
  have fpk := hM.fro k hk
  have hne : ((k : Int) == 1024) = false := by simp; omega
  go_enter Yba.func10, Yba.ntmps10
  go_wp2
  go_region
  all_goals
    go_wp2_with fail
    refine (set_any b g p cp k (X k) 0 w.drew hk c0 c2 cgp cpk fpk).mono ?_
    rintro e w' ⟨rfl, rfl⟩
    obtain ⟨w1, hw1⟩ : ∃ w1, w1 = w.drew.setCell ⟨p, k, none⟩ (.int .u32 (lowv (X k))) := ⟨_, rfl⟩
    rw [← hw1]
    have hq1 : w1.heap[b]? = some (lvb n (k : Nat) kv (.slice (some ⟨g, 0, none⟩) 1 cp) la sp od A) := by rw [hw1, Below.heap_setCell _ _ _ _ (Ne.symm hpb)]; exact hq
    have hM1 : Marks w1 g p (k + 1) X := by rw [hw1]; exact hM.stored hgp hk
    have hk1 : Kept (fun i => i = b ∨ i = p) w w1 := by rw [hw1]; exact (Kept.refl _ _).drew.setCell (.inr rfl) _
    clear hw1 hq hM c0 c2 c3 f3 cgp cpk fpk
    have c3 : w1.cell? ⟨b, 23, none⟩ = some (.int .i64 k) := by simp [World.cell?, hq1, lvCells]
    have f3 : w1.frozen? ⟨b, 23, none⟩ = false := by simp [World.frozen?, hq1]
    go_wp2
    go_end0
    refine ⟨rfl, cp, ?_, hM1.kept (Below.heap_setCell _ _ _ _ hgb) (Below.heap_setCell _ _ _ _ hpb), hk1.setCell (.inl rfl) _⟩
    rw [Joins.block_setCell (i := 23) hq1]
    simp [lvCells]

theorem info39 : (Yba.prog.info? 39).map (fun i => (i.zero, i.size, i.bytes)) = some (some (.pointer none), 1, 8) := by kernel_rfl

theorem z1024_at (j : Nat) (hj : j < 16) : z1024[j]? = some (.int .u32 0) := by
  unfold z1024
  rw [Array.getElem?_replicate, if_pos (by omega)]

theorem new1 (w : World) (v : Value) (t : TypeId) (n : Nat) (hn : n = w.heap.size) : ∀ j u, ([v] : List Value)[j]? = some u → (w.alloc (.cells #[v] t)).drew.cell? ((⟨n, 0, none⟩ : Addr).add j) = some u := by
  subst hn
  intro j u hj
  have h := heap_alloc_new w (.cells #[v] t)
  show (w.alloc _).cell? _ = _
  rw [Addr.add_lit]
  simp only [World.cell?, h, Nat.zero_add]
  simpa using hj
theorem one1 (a : Option Addr) : ∀ u ∈ ([.pointer a] : List Value), u.oneCell' = true := by
  intro u hu
  simp at hu
  subst hu
  rfl
theorem own_form1 {w : World} {B e size : Nat} {v : Value} {xs : List Value} (h : w.ownsRow B e size v (0 + 1) xs) : ∃ g cap, v = .slice (some ⟨g, 0, none⟩) 1 cap := by
  rcases h.2 with ⟨_, h⟩ | ⟨g, cap', _, h, _⟩
  · omega
  · exact ⟨g, cap', h⟩

set_option maxHeartbeats 1000000 in
theorem add_first (b : Nat) (n : Int) (kv la : Value) (sp od : Bool) (A X : Nat → Int) (w : World)
    (hq : w.heap[b]? = some (lvb n (0 : Nat) kv (.slice none 0 0) la sp od A)) :
    Calls Yba.prog 10 #[.pointer (some ⟨b, 20, none⟩), .int .u64 (markv (X 0))] w fun e w' => ∃ g p, w.heap.size ≤ g ∧ w.heap.size ≤ p ∧ g ≠ p ∧ AddPost b g p 0 n kv la sp od A X (fun i => i = b) w e w' := by
  have hz := zero58
  have hbl := lt_of_block hq
  have c0 : w.cell? ⟨b, 20, none⟩ = some (.slice none 0 0) := by simp [World.cell?, hq, lvCells]
  have c2 : w.cell? ⟨b, 22, none⟩ = some (.bool false) := by simp [World.cell?, hq, lvCells]
  have c3 : w.cell? ⟨b, 23, none⟩ = some (.int .i64 0) := by simp [World.cell?, hq, lvCells]
  have f0 : w.frozen? ⟨b, 20, none⟩ = false := by simp [World.frozen?, hq]
  obtain ⟨i0, hi, hz0, hz1, hz2⟩ := info_parts info39
  go_enter Yba.func10, Yba.ntmps10
  go_wp2
  go_region
  all_goals
    go_wp2_with (at_builtin; refine wpList_append_own _ rfl (.tmp 19) (.tmp 21) 32 rfl (w.heap.size + 2) 39 i0 (.pointer none) 1 8 Yba.underlying32 hi hz0 hz1 hz2 rfl (by decide) _ _ _ rfl (World.ownsRow_nil _ _ _ _) ⟨w.heap.size + 1, 0, none⟩ 1 1 [.pointer (some ⟨w.heap.size, 0, none⟩)] rfl rfl (new1 _ _ _ _ (by simp)) (one1 _) (by unfold maxLen; omega) (by omega) (by simp) ?_)
    intro v' w1 hown hgrow _
    obtain ⟨g, cp, rfl⟩ := own_form1 hown
    have hgB := hown.lt g rfl
    have hq1 : w1.heap[b]? = some (lvb n (0 : Nat) kv (.slice none 0 0) la sp od A) :=
      (hgrow.block b (by show b < ((w.alloc _).alloc _).heap.size; simp; omega) (by simp [Value.ownBlock])).trans ((Below.heap_alloc _ _ _ (by simp; omega)).trans ((Below.heap_alloc _ _ _ hbl).trans hq))
    have hp1 : w1.heap[w.heap.size]? = some (.cells z1024 58 (0, 0)) :=
      (hgrow.block _ (by show _ < ((w.alloc _).alloc _).heap.size; simp; omega) (by simp [Value.ownBlock])).trans ((Below.heap_alloc _ _ _ (by simp)).trans (heap_alloc_new _ _))
    have hg1 : w1.cell? ⟨g, 0, none⟩ = some (.pointer (some ⟨w.heap.size, 0, none⟩)) := by simpa using hown.cellAt 0 (by omega)
    have hk1 : Kept (fun i => i = b) w w1 := ((Kept.refl _ _).alloc _ |>.alloc _ |>.drew).grown hgrow (fun k hk => by simp [Value.ownBlock] at hk)
    obtain ⟨p, hpe⟩ : ∃ p, p = w.heap.size := ⟨_, rfl⟩
    rw [← hpe] at hp1 hg1
    have hpb : p ≠ b := by omega
    have hgb : g ≠ b := by omega
    have hgp : g ≠ p := by omega
    have hM1 : Marks w1 g p 0 X := ⟨by rw [Array.getElem?_eq_getElem hgB.2]; rfl, hg1, fun j hj => by simp only [World.cell?, hp1]; simpa using z1024_at j hj, fun j hj => by simp [World.frozen?, hp1]⟩
    have hpos : w.heap.size ≤ g ∧ w.heap.size ≤ p ∧ g ≠ p := ⟨by omega, by omega, hgp⟩
    have HP := hpos
    clear hgrow hown hz c0 c2 c3 f0 hpos hg1 hp1 hgB hq hpe
    have c0 : w1.cell? ⟨b, 20, none⟩ = some (.slice none 0 0) := by simp [World.cell?, hq1, lvCells]
    have f0 : w1.frozen? ⟨b, 20, none⟩ = false := by simp [World.frozen?, hq1]
    have c2 : w1.cell? ⟨b, 22, none⟩ = some (.bool false) := by simp [World.cell?, hq1, lvCells]
    have c3 : w1.cell? ⟨b, 23, none⟩ = some (.int .i64 0) := by simp [World.cell?, hq1, lvCells]
    go_wp2_with fail
    obtain ⟨w2, hw2⟩ : ∃ w2, w2 = w1.setCell ⟨b, 20, none⟩ (.slice (some ⟨g, 0, none⟩) 1 cp) := ⟨_, rfl⟩
    rw [← hw2]
    have hq2 : w2.heap[b]? = some (lvb n (0 : Nat) kv (.slice (some ⟨g, 0, none⟩) 1 cp) la sp od A) := by
      rw [hw2, Joins.block_setCell (i := 20) hq1]; simp [lvCells]
    have hM2 : Marks w2 g p 0 X := by rw [hw2]; exact hM1.kept (Below.heap_setCell _ _ _ _ hgb) (Below.heap_setCell _ _ _ _ hpb)
    have hk2 : Kept (fun i => i = b) w w2 := by rw [hw2]; exact hk1.setCell rfl _
    clear hw2 hq1 hM1 hk1 c0 f0 c2 c3
    have c0 : w2.cell? ⟨b, 20, none⟩ = some (.slice (some ⟨g, 0, none⟩) 1 cp) := by simp [World.cell?, hq2, lvCells]
    have c2 : w2.cell? ⟨b, 22, none⟩ = some (.bool false) := by simp [World.cell?, hq2, lvCells]
    refine (set_any b g p cp 0 (X 0) 0 w2 (by omega) c0 c2 hM2.cg (by simpa using hM2.cells 0 (by omega)) (hM2.fro 0 (by omega))).mono ?_
    rintro e w' ⟨rfl, rfl⟩
    obtain ⟨w3, hw3⟩ : ∃ w3, w3 = w2.setCell ⟨p, 0, none⟩ (.int .u32 (lowv (X 0))) := ⟨_, rfl⟩
    rw [← hw3]
    have hq3 : w3.heap[b]? = some (lvb n (0 : Nat) kv (.slice (some ⟨g, 0, none⟩) 1 cp) la sp od A) := by rw [hw3, Below.heap_setCell _ _ _ _ (Ne.symm hpb)]; exact hq2
    have hM3 : Marks w3 g p (0 + 1) X := by rw [hw3]; exact (hM2.stored hgp (by omega)).kept rfl rfl
    have hk3 : Kept (fun i => i = b) w w3 := by
      rw [hw3]
      exact ⟨hk2.os, hk2.tape, hk2.output, Nat.le_trans hk2.size (by simp [World.setCell]), fun k hk hs => (Below.heap_setCell _ _ _ _ (fun e => by have := HP.2.1; simp at e; omega)).trans (hk2.block k hk hs)⟩
    clear hw3 hq2 hM2 hk2 c0 c2
    have c3 : w3.cell? ⟨b, 23, none⟩ = some (.int .i64 0) := by simp [World.cell?, hq3, lvCells]
    have f3 : w3.frozen? ⟨b, 23, none⟩ = false := by simp [World.frozen?, hq3]
    go_wp2
    go_end0
    refine ⟨g, p, HP.1, HP.2.1, HP.2.2, rfl, cp, ?_, hM3.kept (Below.heap_setCell _ _ _ _ hgb) (Below.heap_setCell _ _ _ _ hpb), hk3.setCell rfl _⟩
    rw [Joins.block_setCell (i := 23) hq3]
    simp [lvCells]
end Go.Proofs.Ybulkqma

/-
  The law's walk.
-/
import Derived.Test.YbulkqnqLawA
namespace Go.Proofs.Ybulkqnq
open Go.RowKit

/-- The runs laid so far. -/
structure RFill (rb m : Nat) (R : Nat → Int × Int) (w3 : World) (k : Nat) (wr : World) : Prop where
  blk : ∃ cur : Array Value, wr.heap[rb]? = some (.cells cur 30 (0, 0)) ∧ cur.size = m * 2 ∧ ∀ q, q < k → cur[q * 2]? = some (.int .i64 (R q).1) ∧ cur[q * 2 + 1]? = some (.int .i64 (R q).2)
  kept : Kept (fun i => rb ≤ i) w3 wr

theorem info30 : (Yba.prog.info? 30).map (fun i => (i.zero, i.size, i.bytes)) = some (some (.agg #[.int .i64 0, .int .i64 0]), 2, 16) := by kernel_rfl

theorem IsRuns.later {N : Nat} {w wr : World} {a : Option Addr} {n : Nat} {R : Nat → Int × Int} (h : IsRuns w a n R) (hb : Below N w wr) (hN : N = w.heap.size) : IsRuns wr a n R := by
  rcases h with h | ⟨b, off, h1, h2, h3⟩
  · exact .inl h
  · exact .inr ⟨b, off, h1, by have := hb.size; omega, fun i hi => ⟨(hb.cell (p := ⟨b, off + i * 2, none⟩) (by rw [hN]; exact h2)).trans (h3 i hi).1, (hb.cell (p := ⟨b, off + i * 2 + 1, none⟩) (by rw [hN]; exact h2)).trans (h3 i hi).2.1, (h3 i hi).2.2⟩⟩

theorem own_block2 {w : World} {B e n s cap g : Nat} {xs : List Value} (h : w.ownsRow B e s (.slice (some ⟨g, 0, none⟩) n cap) n xs) : ∃ cur : Array Value, w.heap[g]? = some (.cells cur e (0, 0)) ∧ cur.size = cap * s := by
  rcases h.2 with ⟨e, _⟩ | ⟨g', cp, cur, e, h1, h2, h3, h4, h5, h6⟩
  · cases e
  · injection e with e1 _ e3
    injection e1 with e1
    injection e1 with e1
    subst e1; subst e3
    exact ⟨cur, h2, h5⟩

theorem RFill.cells {rb m k : Nat} {R : Nat → Int × Int} {w3 wr : World} (h : RFill rb m R w3 k wr) (hk : k < m) :
    (∃ v, wr.cell? ⟨rb, k * 2, none⟩ = some v) ∧ (∃ v, wr.cell? ⟨rb, k * 2 + 1, none⟩ = some v) ∧ wr.frozen? ⟨rb, k * 2, none⟩ = false ∧ wr.frozen? ⟨rb, k * 2 + 1, none⟩ = false ∧ rb < wr.heap.size := by
  obtain ⟨cur, hq, hs, hc⟩ := h.blk
  refine ⟨⟨cur[k * 2]'(by omega), ?_⟩, ⟨cur[k * 2 + 1]'(by omega), ?_⟩, by simp [World.frozen?, hq], by simp [World.frozen?, hq], lt_of_block hq⟩
  · simp only [World.cell?, hq]
    simp [show k * 2 < cur.size by omega]
  · simp only [World.cell?, hq]
    simp [show k * 2 + 1 < cur.size by omega]

theorem RFill.step {rb m k : Nat} {R : Nat → Int × Int} {w3 wr : World} {F L : Int} (h : RFill rb m R w3 k wr) (hk : k < m) (hF : F = (R k).1) (hL : L = (R k).2) (o : Obj) :
    RFill rb m R w3 (k + 1) (((wr.setCell ⟨rb, k * 2, none⟩ (.int .i64 F)).setCell ⟨rb, k * 2 + 1, none⟩ (.int .i64 L)).alloc o) := by
  obtain ⟨cur, hq, hs, hc⟩ := h.blk
  have hq2 := Joins.block_setCell (i := k * 2 + 1) (Joins.block_setCell (i := k * 2) hq (.int .i64 F)) (.int .i64 L)
  refine ⟨⟨_, (Below.heap_alloc _ _ _ (lt_of_block hq2)).trans hq2, by simpa using hs, fun q hq => ?_⟩, ((h.kept.setCell (p := ⟨rb, k * 2, none⟩) (Nat.le_refl _) _).setCell (p := ⟨rb, k * 2 + 1, none⟩) (Nat.le_refl _) _).alloc _⟩
  by_cases e : q = k
  · subst e
    rw [← hF, ← hL]
    constructor
    · rw [Array.getElem?_setIfInBounds_ne (by omega), Array.getElem?_setIfInBounds_self_of_lt (by omega)]
    · rw [Array.getElem?_setIfInBounds_self_of_lt (by simp; omega)]
  · obtain ⟨h1, h2⟩ := hc q (by omega)
    constructor
    · rw [Array.getElem?_setIfInBounds_ne (by omega), Array.getElem?_setIfInBounds_ne (by omega)]; exact h1
    · rw [Array.getElem?_setIfInBounds_ne (by omega), Array.getElem?_setIfInBounds_ne (by omega)]; exact h2

theorem RFill.runs {rb pb m : Nat} {R : Nat → Int × Int} {w3 wr w6 : World} {a : Option Addr} (h : RFill rb m R w3 m wr) (hi : IsRuns w3 a m R) (h6 : w6.heap[rb]? = wr.heap[rb]?) (hp : rb < pb) : Runs pb w6 rb m R := by
  obtain ⟨cur, hq, hs, hc⟩ := h.blk
  rw [← h6] at hq
  refine ⟨hp, fun q hq' => ?_, fun q hq' => ?_⟩
  · obtain ⟨h1, h2⟩ := hc q hq'
    constructor
    · simp only [World.cell?, hq]; simpa using h1
    · simp only [World.cell?, hq]; simpa using h2
  · obtain ⟨b, off, _, _, h3⟩ := hi.resolve_left (by omega)
    exact (h3 q hq').2.2
theorem Cols.mono {C C' : Nat} {w : World} {a : Option Addr} {cap : Nat} {zs : List Int} (h : Cols C w a cap zs) (hC : C ≤ C') : Cols C' w a cap zs :=
  ⟨h.len, h.inc, h.top, h.mem.imp id fun ⟨b, h1, h2, h3⟩ => ⟨b, h1, by omega, h3⟩⟩
/-- What stands when cover is called. -/
theorem ready {rb m : Nat} {R : Nat → Int × Int} {w3 wr : World} {a a1 : Option Addr} {cap : Nat} {zs : List Int} (h : RFill rb m R w3 m wr) (hrb : rb = w3.heap.size) (hi : IsRuns w3 a1 m R) (hc : Cols w3.heap.size w3 a cap zs)
    {w6 : World} (hw6 : w6 = (wr.alloc (.cells #[.slice a zs.length cap, .slice none 0 0, .slice none 0 0, .int .i64 0] 35)).alloc (.cells #[.slice none 0 0] 22)) :
    Log (wr.heap.size + 1) (wr.heap.size + 2) w6 [] ∧ w6.heap[wr.heap.size]? = some (plb a zs.length cap 0) ∧ Runs wr.heap.size w6 rb m R ∧ Cols wr.heap.size w6 a cap zs ∧ Kept (fun i => rb ≤ i) w3 w6 := by
  have hrs : rb < wr.heap.size := by obtain ⟨cur, hq, _⟩ := h.blk; exact lt_of_block hq
  have hk : Kept (fun i => rb ≤ i) w3 w6 := by rw [hw6]; exact (h.kept.alloc _).alloc _
  have hs6 : w6.heap.size = wr.heap.size + 2 := by rw [hw6]; simp
  refine ⟨⟨by omega, by omega, .slice none 0 0, ?_, World.ownsRow_nil _ _ _ _⟩, ?_, ?_, ?_, hk⟩
  · rw [hw6]
    have := heap_alloc_new (wr.alloc (.cells #[.slice a zs.length cap, .slice none 0 0, .slice none 0 0, .int .i64 0] 35)) (.cells #[.slice none 0 0] 22)
    simpa using this
  · rw [hw6]
    exact (Below.heap_alloc _ _ _ (by simp)).trans (heap_alloc_new _ _)
  · refine h.runs hi ?_ hrs
    rw [hw6]
    exact (Below.heap_alloc _ _ _ (by simp; omega)).trans (Below.heap_alloc _ _ _ hrs)
  · exact (hc.kept hk (Nat.le_refl _) (fun i hi => by omega)).mono (by omega)

theorem log_form {lb B : Nat} {w : World} {log : List Nat} (h : Log lb B w log) : ∃ la lcap, w.heap[lb]? = some (.cells #[.slice la log.length lcap] 22 (0, 0)) ∧ (0 < log.length → ∃ g, la = some ⟨g, 0, none⟩ ∧ g < w.heap.size ∧ ∀ j, j < log.length → w.cell? ⟨g, j, none⟩ = some (.int .i64 (log.getD j 0 : Nat))) := by
  obtain ⟨h1, h2, v, h3, h4⟩ := h
  rcases Joins.ownsRow_forms h4 with ⟨rfl, h0⟩ | ⟨g, cap, rfl⟩
  · exact ⟨none, 0, by rw [h0]; exact h3, fun h => by omega⟩
  · refine ⟨_, _, h3, fun _ => ⟨g, rfl, (h4.lt g rfl).2, fun j hj => ?_⟩⟩
    rw [h4.cellAt j (by omega), List.getElem?_map, List.getElem?_eq_getElem hj, List.getD_eq_getElem?_getD, List.getElem?_eq_getElem hj]
    rfl

theorem info3' : (Yba.prog.info? 3).map (fun i => (i.zero, i.size, i.bytes)) = some (some (.int .i64 0), 1, 8) := by kernel_rfl

theorem IsRuns.kept {w wr : World} {a : Option Addr} {n : Nat} {R : Nat → Int × Int} (h : IsRuns w a n R) (hk : Kept (fun i => w.heap.size ≤ i) w wr) : IsRuns wr a n R := by
  rcases h with h | ⟨b, off, h1, h2, h3⟩
  · exact .inl h
  · have hb := hk.block b h2 (by omega)
    exact .inr ⟨b, off, h1, by have := hk.size; omega, fun i hi => ⟨(World.cell?_of_block (a := ⟨b, off + i * 2, none⟩) hb).trans (h3 i hi).1, (World.cell?_of_block (a := ⟨b, off + i * 2 + 1, none⟩) hb).trans (h3 i hi).2.1, (h3 i hi).2.2⟩⟩

/-- The counts of the log's first k. -/
structure Cnt (cb n : Nat) (log : List Nat) (w7 : World) (k : Nat) (wr : World) : Prop where
  blk : ∃ cur : Array Value, wr.heap[cb]? = some (.cells cur 3 (0, 0)) ∧ cur.size = 2 * n + 1 ∧ ∀ u, u < 2 * n + 1 → cur[u]? = some (.int .i64 ((log.take k).count u : Nat))
  kept : Kept (fun i => cb ≤ i) w7 wr
theorem Cnt.cell {cb n k : Nat} {log : List Nat} {w7 wr : World} (h : Cnt cb n log w7 k wr) (u : Nat) (hu : u < 2 * n + 1) : wr.cell? ⟨cb, u, none⟩ = some (.int .i64 ((log.take k).count u : Nat)) ∧ wr.frozen? ⟨cb, u, none⟩ = false := by
  obtain ⟨cur, hq, hs, hc⟩ := h.blk
  refine ⟨?_, by simp [World.frozen?, hq]⟩
  simp only [World.cell?, hq]
  simpa using hc u hu
theorem Cnt.start {cb n : Nat} {log : List Nat} {w7 w8 : World} (h : w8.ownsRow cb 3 1 (.slice (some ⟨cb, 0, none⟩) (2 * n + 1) (2 * n + 1)) (2 * n + 1) (madeCells #[.int .i64 0] (2 * n + 1)).toList) (hk : Kept (fun i => cb ≤ i) w7 w8) : Cnt cb n log w7 0 w8 := by
  obtain ⟨cur, hq, hs⟩ := own_block2 h
  refine ⟨⟨cur, hq, by omega, fun u hu => ?_⟩, hk⟩
  have := h.cellAt u (by omega)
  rw [toList_madeCells_one, List.getElem?_replicate, if_pos hu] at this
  simp only [World.cell?, hq] at this
  simpa using this
theorem Cnt.step {cb n k : Nat} {log : List Nat} {w7 wr : World} (h : Cnt cb n log w7 k wr) (hk : k < log.length) (x : Nat) (hx : x = log.getD k 0) (hn : x < 2 * n + 1) (c : Nat) (hc : c = (log.take k).count x) :
    Cnt cb n log w7 (k + 1) (wr.setCell ⟨cb, x, none⟩ (.int .i64 ((c : Int) + 1))) := by
  obtain ⟨cur, hq, hs, hcu⟩ := h.blk
  refine ⟨⟨_, Joins.block_setCell (i := x) hq _, by simpa using hs, fun u hu => ?_⟩, h.kept.setCell (p := ⟨cb, x, none⟩) (Nat.le_refl _) _⟩
  have ht : log.take (k + 1) = log.take k ++ [x] := by
    rw [List.take_add_one, List.getElem?_eq_getElem hk, hx, List.getD_eq_getElem?_getD, List.getElem?_eq_getElem hk]
    rfl
  rw [ht, List.count_append]
  by_cases e : u = x
  · subst e
    rw [Array.getElem?_setIfInBounds_self_of_lt (by omega), hc]
    simp
  · rw [Array.getElem?_setIfInBounds_ne (by omega), hcu u hu, List.count_singleton]
    have : (u == x) = false := by simpa using e
    simp [show (x == u) = false by simpa using fun h => e h.symm]

/-- What stands while the columns are compared. -/
structure Fin4 (w : World) (C cb m : Nat) (a : Option Addr) (cap : Nat) (zs : List Int) (a1 : Option Addr) (R : Nat → Int × Int) (log : List Nat) (wx : World) : Prop where
  cols : Cols C wx a cap zs
  hC : C ≤ wx.heap.size
  runs : IsRuns wx a1 m R
  cnt : ∀ u, u < 2 * zs.length + 1 → wx.cell? ⟨cb, u, none⟩ = some (.int .i64 (log.count u : Nat))
  below : Below w.heap.size w wx
theorem Fin4.kept {w : World} {C cb m : Nat} {a : Option Addr} {cap : Nat} {zs : List Int} {a1 : Option Addr} {R : Nat → Int × Int} {log : List Nat} {wx wy : World} (h : Fin4 w C cb m a cap zs a1 R log wx) (hk : Kept (fun i => wx.heap.size ≤ i) wx wy) : Fin4 w C cb m a cap zs a1 R log wy := by
  refine ⟨h.cols.kept hk h.hC (fun k hk' => by have := h.hC; omega), Nat.le_trans h.hC hk.size, h.runs.kept hk, fun u hu => ?_, Kept.below h.below hk h.below.size (fun k hk' => by have := h.below.size; omega)⟩
  have hc := h.cnt u hu
  exact (World.cell?_of_block (a := ⟨cb, u, none⟩) (hk.block cb (World.block_lt_of_cell? _ _ hc) (by have := World.block_lt_of_cell? _ _ hc; simp at this; omega))).trans hc
theorem Fin4.start {w w3 w6 w7 w9 : World} {pb rb cb m : Nat} {a a1 : Option Addr} {cap : Nat} {zs : List Int} {R : Nat → Int × Int} {log : List Nat} {st : Nat} (hrb : rb = w3.heap.size) (hrp : rb < pb) (hcb : cb = w7.heap.size) (hB : Below w.heap.size w w3) (hR : IsRuns w3 a1 m R)
    (hK : Kept (fun i => rb ≤ i) w3 w6) (hC : Cols pb w6 a cap zs) (hps : pb ≤ w6.heap.size) (hI : CInv pb (pb + 1) (pb + 2) a cap zs R w6 m log st w7) (hN : Cnt cb zs.length log w7 log.length w9) : Fin4 w pb cb m a cap zs a1 R log w9 := by
  have hs7 := hI.kept.size
  have hs9 := hN.kept.size
  have k69 : Kept (fun i => pb ≤ i) w6 w9 := (hI.kept.wider (fun i _ h => by rcases h with h | h | h <;> omega)).trans (hN.kept.wider (fun i _ h => by omega))
  have k39 : Kept (fun i => rb ≤ i) w3 w9 := hK.trans (k69.wider (fun i _ h => by omega))
  refine ⟨hC.kept k69 hps (fun i hi => by omega), by omega, hR.kept (k39.wider (fun i _ h => by omega)), fun u hu => ?_, Kept.below hB k39 hB.size (fun i hi => by have := hB.size; omega)⟩
  have := (hN.cell u hu).1
  rw [List.take_length] at this
  exact this
theorem hold_step (R : Nat → Int × Int) (z F L : Int) (q : Nat) (hF : F = (R q).1) (hL : L = (R q).2) : holdN R z (q + 1) = holdN R z q + (if F ≤ z ∧ z ≤ L then 1 else 0) := by
  rw [holdN, hF, hL]
theorem chs_step (c : Nat → Nat) (f v : Nat) (hv : 1 ≤ v) (hf : v ≤ f) : chs c f v = c v + chs c (f - 1) (v / 2) := by
  obtain ⟨g, rfl⟩ : ∃ g, f = g + 1 := ⟨f - 1, by omega⟩
  rw [chs, if_pos hv]
  rfl
theorem chs_zero (c : Nat → Nat) (f : Nat) : chs c f 0 = 0 := by
  cases f <;> simp [chs]
theorem Fin4.col {w : World} {C cb m : Nat} {a : Option Addr} {cap : Nat} {zs : List Int} {a1 : Option Addr} {R : Nat → Int × Int} {log : List Nat} {wx : World} (h : Fin4 w C cb m a cap zs a1 R log wx) (t : Nat) (ht : t < zs.length) : ∃ b, a = some ⟨b, 0, none⟩ ∧ zs.length ≤ cap ∧ wx.cell? ⟨b, t, none⟩ = some (.int .i64 (zs.getD t 0)) := by
  rcases h.cols.mem with h0 | ⟨b, h1, h2, h3, h4⟩
  · rw [h0] at ht; simp at ht
  · exact ⟨b, h1, h3, h4 t ht⟩

set_option maxRecDepth 100000 in
set_option maxHeartbeats 4000000 in
theorem law_walk (a0 a1 : Option Addr) (len0 cap0 m cap1 : Nat) (Z : List Int) (R : Nat → Int × Int) (w : World) (h0 : IsXs w a0 len0 Z) (h1 : IsRuns w a1 m R) (hl0 : len0 ≤ 256) (hl1 : m ≤ 256) :
    Calls Yba.prog 3 #[.slice a0 len0 cap0, .slice a1 m cap1] w fun e w' => e = .returned (.bool true) ∧ Below w.heap.size w w' := by
  obtain ⟨i0, hi, hz0, hz1, hz2⟩ := info_parts info30
  go_enter Yba.func3, Yba.ntmps3
  go_wp2_with fail
  refine (clone_all h0 hl0).mono ?_
  rintro e w1 ⟨v1, rfl, ho1, hb1⟩
  go_wp2_with fail
  refine (sort_all ho1 hl0).mono ?_
  rintro e w2 ⟨rfl, ho2, hb2⟩
  go_wp2_with fail
  refine (compact_all ho2 hl0).mono ?_
  rintro e w3 ⟨a, cap, rfl, ho3, hb3⟩
  obtain ⟨zs, hzs⟩ : ∃ zs, zs = colsOf Z := ⟨_, rfl⟩
  have ho3' : w3.ownsRow w.heap.size 3 1 (.slice a zs.length cap) zs.length (zs.map (Value.int .i64)) := by rw [hzs]; exact ho3
  have hc3 : Hid (Cols w3.heap.size w3 a cap zs) := cols_all hzs ho3' (by rw [h0.1]; exact hl0) h0.2.1
  have hlz : (Lib.compact (Z.mergeSort fun x y => decide (x ≤ y))).length = zs.length := by rw [hzs]; rfl
  rw [hlz]
  have hB3 : Hid (Below w.heap.size w w3) := (hb1.trans hb2).trans hb3
  have hN3 := ((hb1.trans hb2).trans hb3).size
  have hzl : zs.length ≤ 256 := hc3.out.len
  have hR3 := h1.later hB3.out rfl
  clear ho1 hb1 ho2 hb2 ho3 hb3 ho3' hlz hzs h0 h1
  go_wp2_with (at_make; refine wpList_make_full _ rfl _ _ 26 rfl w3.heap.size 30 i0 _ 2 Yba.underlying26 hi hz0 hz1 _ _ _ _ m rfl rfl rfl rfl (by rw [hz2]; omega) (by unfold maxLen; omega) (Nat.le_refl _) ?_)
  intro w4 hown4 hgrow4
  obtain ⟨rb, hrb⟩ : ∃ rb, rb = w3.heap.size := ⟨_, rfl⟩
  rw [← hrb] at hown4
  rw [← hrb]
  have HRB : Hid (rb = w3.heap.size) := hrb
  have HF0 : Hid (RFill rb m R w3 0 w4) := by
    obtain ⟨cur, hg, hcl⟩ := own_block2 hown4
    exact ⟨⟨cur, hg, hcl, fun q hq => absurd hq (Nat.not_lt_zero _)⟩, (Kept.refl _ _).grown hgrow4 (fun k h => by cases h)⟩
  have HR3 : Hid (IsRuns w3 a1 m R) := hR3
  clear hrb hown4 hgrow4 hR3
  go_wp2
  go_loopw [42] (fun i wr => ∃ k : Nat, k ≤ m ∧ i = .int .i64 k ∧ Hid (RFill rb m R w3 k wr)) (fun i _ => m - (intOf i).toNat)
  case atStart => exact ⟨0, Nat.zero_le _, rfl, HF0⟩
  case round =>
    clear HF0
    obtain ⟨k, hk, rfl, HF⟩ := hrel
    have HRr : Hid (IsRuns wr a1 m R) := HR3.out.kept (HF.out.kept.wider (fun i _ h => by have := HRB.out; omega))
    by_cases hlt : k < m
    · obtain ⟨b, off, rfl, hbs, hbc⟩ := HRr.out.resolve_left (by omega)
      obtain ⟨cF, cL, hlow⟩ := hbc k hlt
      obtain ⟨F, hF⟩ : ∃ F, F = (R k).1 := ⟨_, rfl⟩
      obtain ⟨L, hL⟩ : ∃ L, L = (R k).2 := ⟨_, rfl⟩
      rw [← hF] at cF
      rw [← hL] at cL
      have HFk : Hid (F = (R k).1) := hF
      have HLk : Hid (L = (R k).2) := hL
      obtain ⟨⟨v0, c0⟩, ⟨v1, c1⟩, f0, f1, hrbs⟩ := HF.out.cells hlt
      clear hF hL hbc hlow
      go_wp2
      go_roundw
      case rel => exact ⟨k + 1, by omega, by go_num, HF.out.step hlt HFk.out HLk.out _⟩
      case measure => simp [intOf]; omega
    · obtain rfl : k = m := by omega
      go_wp2_with fail
      obtain ⟨w6, hw6⟩ : ∃ w6, w6 = (wr.alloc (.cells #[.slice a zs.length cap, .slice none 0 0, .slice none 0 0, .int .i64 0] 35)).alloc (.cells #[.slice none 0 0] 22) := ⟨_, rfl⟩
      obtain ⟨hlog6, hp6, hR6, hC6, hK6⟩ := ready HF.out HRB.out HR3.out hc3.out hw6
      rw [← hw6]
      generalize wr.heap.size = pb at hlog6 hp6 hR6 hC6 ⊢
      have HK6 : Hid (Kept (fun i => rb ≤ i) w3 w6) := hK6
      have HC6 : Hid (Cols pb w6 a cap zs) := hC6
      have hrp : rb < pb := hR6.at_
      have hps6 : pb ≤ w6.heap.size := by have := hlog6.2.1; omega
      have CV := cover_any pb (pb + 1) (pb + 2) rb k a cap zs R w6 hlog6 hp6 (by omega) hl1 hR6 hC6
      clear hw6 hlog6 hp6 hR6 hC6 hK6 HF HRr
      refine CV.mono ?_
      clear CV
      rintro e w7 ⟨rfl, log, st, hI⟩
      obtain ⟨la, lcap, hlv, hlc⟩ := log_form hI.lg
      have c3 := pl3 hI.p
      have cl := cell_of_one hlv
      have hst : (log.length : Int) ≤ (st : Int) := by have := hI.lo; omega
      have hst2 : st ≤ 400000 := by have := hI.hi; omega
      have hll : log.length ≤ 400000 := by have := hI.lo; omega
      have HI : Hid (CInv pb (pb + 1) (pb + 2) a cap zs R w6 k log st w7) := hI
      have HLC : Hid (0 < log.length → ∃ g, la = some ⟨g, 0, none⟩ ∧ g < w7.heap.size ∧ ∀ j, j < log.length → w7.cell? ⟨g, j, none⟩ = some (.int .i64 (log.getD j 0 : Nat))) := hlc
      have HZ0 : Hid (2 * zs.length + 1 ≤ 513) := by show _ ≤ _; omega
      clear hI hlc hlv
      obtain ⟨i3, hi3, hy0, hy1, hy2⟩ := info_parts info3'
      go_wp2
      go_quiet (fail)
      go_wp2_with (at_make; refine wpList_make_full _ rfl _ _ 22 rfl w7.heap.size 3 i3 _ 1 Yba.underlying22 hi3 hy0 hy1 _ _ _ _ (2 * zs.length + 1) rfl rfl (by omega) (by omega) (by rw [hy2]; omega) (by unfold maxLen; omega) (Nat.le_refl _) ?_)
      intro w8 hown8 hgrow8
      obtain ⟨cb, hcb⟩ : ∃ cb, cb = w7.heap.size := ⟨_, rfl⟩
      rw [← hcb] at hown8
      rw [← hcb]
      have HCB : Hid (cb = w7.heap.size) := hcb
      have hk8 : Kept (fun i => cb ≤ i) w7 w8 := ((Kept.refl _ _).drewN nq).grown hgrow8 (fun k h => by cases h)
      have HN8 : Hid (Cnt cb zs.length log w7 0 w8) := Cnt.start hown8 hk8
      have cl8 : w8.cell? ⟨pb + 1, 0, none⟩ = some (.slice la log.length lcap) :=
        (World.cell?_of_block (a := ⟨pb + 1, 0, none⟩) (hk8.block (pb + 1) (by have := HI.out.lg.1; have := HI.out.lg.2.1; omega) (by have := HI.out.lg.1; have := HI.out.lg.2.1; omega))).trans cl
      clear hcb hk8 hown8 hgrow8 c3 cl hst
      go_wp2
      go_loopw [76] (fun i wr => ∃ q : Nat, q ≤ log.length ∧ i = .int .i64 q ∧ Hid (Cnt cb zs.length log w7 q wr)) (fun i _ => log.length - (intOf i).toNat)
      case atStart => exact ⟨0, Nat.zero_le _, rfl, HN8⟩
      case round =>
        clear HN8 cl8
        obtain ⟨q, hq, rfl, HN⟩ := hrel
        by_cases hql : q < log.length
        · obtain ⟨g, rfl, hg7, hgc⟩ := HLC.out (by omega)
          have cg := (World.cell?_of_block (a := ⟨g, q, none⟩) (HN.out.kept.block g hg7 (by have := HCB.out; omega))).trans (hgc q hql)
          obtain ⟨x, hx⟩ : ∃ x, x = log.getD q 0 := ⟨_, rfl⟩
          rw [← hx] at cg
          have hxm := logged_mem HI.out.logged x (by rw [hx, List.getD_eq_getElem?_getD, List.getElem?_eq_getElem hql]; exact List.getElem_mem _)
          obtain ⟨hx1, hx2⟩ := hxm
          obtain ⟨cx, fx⟩ := HN.out.cell x (by omega)
          obtain ⟨c, hc⟩ : ∃ c, c = (log.take q).count x := ⟨_, rfl⟩
          rw [← hc] at cx
          have hcl : c ≤ 400000 := by
            have h1 := List.count_le_length (a := x) (l := log.take q)
            rw [List.length_take] at h1
            omega
          have HX : Hid (x = log.getD q 0) := hx
          have HCx : Hid (c = (log.take q).count x) := hc
          have hx2' : (x : Int) < 2 * (zs.length : Int) := by omega
          have hx1' : (1 : Int) ≤ (x : Int) := by omega
          clear hx hc hgc
          go_wp2
          go_roundw
          case rel => exact ⟨q + 1, by omega, by go_num, HN.out.step hql x HX.out (by omega) c HCx.out⟩
          case measure => simp [intOf]; omega
        · obtain rfl : q = log.length := by omega
          have HFin : Hid (Fin4 w pb cb k a cap zs a1 R log wr) := Fin4.start HRB.out hrp HCB.out hB3.out HR3.out HK6.out HC6.out hps6 HI.out HN.out
          have HLg : Hid (Logged zs R k log) := HI.out.logged
          clear HN HCB HRB HR3 hB3 HK6 HC6 HI HLC hc3
          go_wp2
          go_loopw [15] (fun i wx => ∃ t : Nat, t ≤ zs.length ∧ i = .int .i64 t ∧ Hid (Fin4 w pb cb k a cap zs a1 R log wx)) (fun i _ => zs.length - (intOf i).toNat)
          case atStart => exact ⟨0, Nat.zero_le _, rfl, HFin⟩
          case round =>
            clear HFin
            obtain ⟨t, ht, rfl, HFin⟩ := hrel
            by_cases htl : t < zs.length
            · obtain ⟨z, hz⟩ : ∃ z, z = zs.getD t 0 := ⟨_, rfl⟩
              have HZ : Hid (z = zs.getD t 0) := hz
              clear hz
              go_wp2
              go_loopw [16, 102] (fun c i wx => ∃ q : Nat, q ≤ k ∧ c = .int .i64 (holdN R z q : Nat) ∧ i = .int .i64 q ∧ Hid (Fin4 w pb cb k a cap zs a1 R log wx)) (fun _ i _ => k - (intOf i).toNat)
              case atStart => exact ⟨0, Nat.zero_le _, rfl, rfl, HFin⟩
              case round =>
                clear HFin
                obtain ⟨q, hqk, rfl, rfl, HFin⟩ := hrel
                by_cases hqk2 : q < k
                · obtain ⟨b1, off, rfl, hbs, hbc⟩ := HFin.out.runs.resolve_left (by omega)
                  obtain ⟨cF, cL, _⟩ := hbc q hqk2
                  obtain ⟨b, rfl, hcap, cz⟩ := HFin.out.col t htl
                  rw [← HZ.out] at cz
                  obtain ⟨F, hF⟩ : ∃ F, F = (R q).1 := ⟨_, rfl⟩
                  obtain ⟨L, hL⟩ : ∃ L, L = (R q).2 := ⟨_, rfl⟩
                  rw [← hF] at cF
                  rw [← hL] at cL
                  have HS : Hid (holdN R z (q + 1) = holdN R z q + (if F ≤ z ∧ z ≤ L then 1 else 0)) := hold_step R z F L q hF hL
                  have hhl : holdN R z q ≤ 256 := by have := holdN_le R z q; omega
                  generalize holdN R z q = hd at *
                  clear hF hL hbc
                  go_wp2
                  obtain ⟨w9, hw9⟩ : ∃ w9, w9 = wr.alloc (.cells #[.int .i64 F, .int .i64 L] 28) := ⟨_, rfl⟩
                  have hk9 : Kept (fun i => wr.heap.size ≤ i) wr w9 := hw9 ▸ (Kept.refl _ _).alloc _
                  have HF9 : Hid (Fin4 w pb cb k (some ⟨b, 0, none⟩) cap zs (some ⟨b1, off, none⟩) R log w9) := HFin.out.kept hk9
                  have hx9 : w9.heap[wr.heap.size]? = some (.cells #[.int .i64 F, .int .i64 L] 28 (0, 0)) := by rw [hw9]; exact heap_alloc_new _ _
                  have cz9 : w9.cell? ⟨b, t, none⟩ = some (.int .i64 z) := (World.cell?_of_block (a := ⟨b, t, none⟩) (hk9.block b (World.block_lt_of_cell? _ _ cz) (by have := World.block_lt_of_cell? _ _ cz; simp at this; omega))).trans cz
                  rw [← hw9]
                  generalize wr.heap.size = N at hx9 ⊢
                  have x0 : w9.cell? ⟨N, 0, none⟩ = some (.int .i64 F) := by simp [World.cell?, hx9]
                  have x1 : w9.cell? ⟨N, 1, none⟩ = some (.int .i64 L) := by simp [World.cell?, hx9]
                  have htI : (t : Int) < (zs.length : Int) := by omega
                  clear hw9 hk9 hx9 cz cF cL HFin hcap
                  by_cases e1 : F ≤ z
                  · by_cases e2 : z ≤ L
                    · have hs := HS.out
                      rw [if_pos ⟨e1, e2⟩] at hs
                      have HS1 : Hid (holdN R z (q + 1) = hd + 1) := hs
                      clear hs HS
                      go_quiet (fail)
                      have HF9' : Hid (Fin4 w pb cb k (some ⟨b, 0, none⟩) cap zs (some ⟨b1, off, none⟩) R log (w9.drewN nq)) := HF9.out.kept ((Kept.refl _ _).drewN nq)
                      go_wp2
                      go_roundw
                      case rel => exact ⟨q + 1, by omega, by rw [HS1.out]; go_num, by go_num, HF9'⟩
                      case measure => simp [intOf]; omega
                    · have hs := HS.out
                      rw [if_neg (fun h => e2 h.2)] at hs
                      have HS1 : Hid (holdN R z (q + 1) = hd + 0) := hs
                      have e2' : decide (z ≤ L) = false := decide_eq_false e2
                      clear hs HS
                      go_quiet (fail)
                      have HF9' : Hid (Fin4 w pb cb k (some ⟨b, 0, none⟩) cap zs (some ⟨b1, off, none⟩) R log (w9.drewN nq)) := HF9.out.kept ((Kept.refl _ _).drewN nq)
                      go_wp2
                      go_roundw
                      case rel => exact ⟨q + 1, by omega, by rw [HS1.out]; rfl, by go_num, HF9'⟩
                      case measure => simp [intOf]; omega
                  · have hs := HS.out
                    rw [if_neg (fun h => e1 h.1)] at hs
                    have HS1 : Hid (holdN R z (q + 1) = hd + 0) := hs
                    have e1' : decide (F ≤ z) = false := decide_eq_false e1
                    clear hs HS
                    go_quiet (fail)
                    have HF9' : Hid (Fin4 w pb cb k (some ⟨b, 0, none⟩) cap zs (some ⟨b1, off, none⟩) R log (w9.drewN nq)) := HF9.out.kept ((Kept.refl _ _).drewN nq)
                    go_wp2
                    go_roundw
                    case rel => exact ⟨q + 1, by omega, by rw [HS1.out]; rfl, by go_num, HF9'⟩
                    case measure => simp [intOf]; omega
                · obtain rfl : q = k := by omega
                  have hch : chs (fun u => log.count u) (t + zs.length) (t + zs.length) = holdN R z q := by rw [HZ.out]; exact chain_law HLg.out t _ htl (Nat.le_refl _)
                  have hhl : holdN R z q ≤ 256 := by have := holdN_le R z q; omega
                  generalize holdN R z q = hd at *
                  have HCH : Hid (chs (fun u => log.count u) (t + zs.length) (t + zs.length) = hd) := hch
                  clear hch
                  go_wp2
                  go_loopw [19, 20] (fun g v wx => ∃ (acc u f : Nat), g = .int .i64 acc ∧ v = .int .i64 u ∧ u ≤ f ∧ u ≤ 2 * zs.length ∧ acc ≤ 256 ∧ Hid (acc + chs (fun u => log.count u) f u = hd) ∧ Hid (Fin4 w pb cb q a cap zs a1 R log wx)) (fun _ v _ => (intOf v).toNat)
                  case atStart => exact ⟨0, t + zs.length, t + zs.length, rfl, by go_num, Nat.le_refl _, by omega, by omega, by show _ = _; rw [Nat.zero_add]; exact HCH.out, HFin⟩
                  case round =>
                    clear HFin HCH
                    obtain ⟨acc, u, f, rfl, rfl, huf, hun, hacc, HCH, HFin⟩ := hrel
                    by_cases hu : 1 ≤ u
                    · have hst : chs (fun u => log.count u) f u = log.count u + chs (fun u => log.count u) (f - 1) (u / 2) := chs_step (fun u => log.count u) f u hu huf
                      have cu := HFin.out.cnt u (by omega)
                      generalize log.count u = cn at hst cu
                      have hcn : acc + cn ≤ 256 := by have := HCH.out; omega
                      have HCH2 : Hid ((acc + cn) + chs (fun u => log.count u) (f - 1) (u / 2) = hd) := by
                        show _ = _
                        have := HCH.out
                        omega
                      have huI : (u : Int) < 2 * (zs.length : Int) + 1 := by omega
                      clear hst HCH
                      go_wp2
                      go_roundw
                      case rel => exact ⟨acc + cn, u / 2, f - 1, by go_num, by go_num, by omega, by omega, hcn, HCH2, HFin⟩
                      case measure => simp [intOf]; omega
                    · obtain rfl : u = 0 := by omega
                      have hz := HCH.out
                      rw [chs_zero, Nat.add_zero] at hz
                      subst hz
                      clear HCH
                      go_wp2
                      go_roundw
                      case rel => exact ⟨t + 1, by omega, by go_num, HFin⟩
                      case measure => simp [intOf]; omega
            · obtain rfl : t = zs.length := by omega
              have hfin := HFin.out.below
              have HFB : Hid (Below w.heap.size w wr) := hfin
              clear HFin hfin
              go_wp2
              go_ret
              exact ⟨rfl, HFB.out⟩

set_option maxRecDepth 100000 in
set_option maxHeartbeats 1000000 in
theorem law_any (a0 a1 : Option Addr) (len0 cap0 m cap1 : Nat) (Z : List Int) (R : Nat → Int × Int) (w : World) (h0 : IsXs w a0 len0 Z) (h1 : IsRuns w a1 m R) :
    Calls Yba.prog 3 #[.slice a0 len0 cap0, .slice a1 m cap1] w fun e w' => e = .returned (.bool true) ∧ Below w.heap.size w w' := by
  by_cases hl0 : 256 < len0
  · have hI : (256 : Int) < (len0 : Int) := by omega
    clear h0 h1
    go_enter Yba.func3, Yba.ntmps3
    go_wp2
    go_ret
    exact ⟨rfl, Below.refl _ _⟩
  by_cases hl1 : 256 < m
  · have hI : (256 : Int) < (m : Int) := by omega
    have hI0 : decide ((256 : Int) < (len0 : Int)) = false := decide_eq_false (by omega)
    clear h0 h1
    go_enter Yba.func3, Yba.ntmps3
    go_wp2
    go_ret
    exact ⟨rfl, Below.refl _ _⟩
  exact law_walk a0 a1 len0 cap0 m cap1 Z R w h0 h1 (by omega) (by omega)
end Go.Proofs.Ybulkqnq

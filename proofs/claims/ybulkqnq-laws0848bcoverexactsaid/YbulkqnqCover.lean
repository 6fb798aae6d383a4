/-
  cover with the visit that logs.
-/
import Derived.Test.YbulkqnqBetween
import Derived.Deep.RegionWith
namespace Go.Proofs.Ybulkqnq
open Go.RowKit

/-- The columns as the slice holds them: its block lies ahead of C. -/
structure Cols (C : Nat) (w : World) (a : Option Addr) (cap : Nat) (zs : List Int) : Prop where
  len : zs.length ≤ 256
  inc : zs.Pairwise (· < ·)
  top : ∀ t, t < zs.length → zs.getD t 0 ≤ 9223372036854775807
  mem : zs = [] ∨ ∃ b, a = some ⟨b, 0, none⟩ ∧ b < C ∧ zs.length ≤ cap ∧ ∀ j, j < zs.length → w.cell? ⟨b, j, none⟩ = some (.int .i64 (zs.getD j 0))

theorem Cols.kept {C : Nat} {w w' : World} {a : Option Addr} {cap : Nat} {zs : List Int} {S : Nat → Prop} (h : Cols C w a cap zs) (hk : Kept S w w') (hC : C ≤ w.heap.size) (hS : ∀ k, k < C → ¬ S k) : Cols C w' a cap zs :=
  ⟨h.len, h.inc, h.top, h.mem.imp id fun ⟨b, h1, h2, h3, h4⟩ => ⟨b, h1, h2, h3, fun j hj => (World.cell?_of_block (a := ⟨b, j, none⟩) (hk.block b (by omega) (hS b h2))).trans (h4 j hj)⟩⟩

theorem btw_cols {C : Nat} {w : World} {a : Option Addr} {cap : Nat} {zs : List Int} (h : Cols C w a cap zs) (F L : Int) (hL : -9223372036854775808 ≤ L) :
    Calls Yba.prog 11 #[.slice a zs.length cap, .agg #[.int .i64 F, .int .i64 L]] w (BtwPost zs F L w) := by
  rcases h.mem with rfl | ⟨b, rfl, h2, h3, h4⟩
  · exact between_none a cap F L w
  · cases hz : zs.length with
    | zero =>
      obtain rfl : zs = [] := List.length_eq_zero_iff.1 hz
      exact between_none _ cap F L w
    | succ k => exact between_any b cap k zs F L w hz (by have := h.len; omega) (by omega) h.inc h4 hL (h.top k (by omega))

/-- The log of the runs so far. -/
inductive Logged (zs : List Int) (R : Nat → Int × Int) : Nat → List Nat → Prop where
  | nil : Logged zs R 0 []
  | step {r : Nat} {log : List Nat} {i j : Nat} (h : Logged zs R r log) (hb : Btw zs (R r).1 (R r).2 i j) :
      Logged zs R (r + 1) (log ++ covF (j + zs.length) (i + zs.length) (j + zs.length))

/-- A plane. -/
abbrev plb (a : Option Addr) (n cap : Nat) (st : Nat) : Obj := .cells #[.slice a n cap, .slice none 0 0, .slice none 0 0, .int .i64 (st : Int)] 35 (0, 0)
abbrev CovS (pb lb B : Nat) : Nat → Prop := fun k => k = pb ∨ k = lb ∨ B ≤ k

structure CInv (pb lb B : Nat) (a : Option Addr) (cap : Nat) (zs : List Int) (R : Nat → Int × Int) (w : World) (r : Nat) (log : List Nat) (st : Nat) (wr : World) : Prop where
  lg : Log lb B wr log
  lo : log.length ≤ st
  hi : st ≤ 1200 * r
  p : wr.heap[pb]? = some (plb a zs.length cap st)
  logged : Logged zs R r log
  kept : Kept (CovS pb lb B) w wr

def CovPost (pb lb B : Nat) (a : Option Addr) (cap : Nat) (zs : List Int) (R : Nat → Int × Int) (w : World) (m : Nat) (e : Ending) (w' : World) : Prop :=
  e = .returned (.tuple #[]) ∧ ∃ log st, CInv pb lb B a cap zs R w m log st w'

/-- Where the runs lie. -/
structure Runs (C : Nat) (w : World) (rb m : Nat) (R : Nat → Int × Int) : Prop where
  at_ : rb < C
  cells : ∀ q, q < m → w.cell? ⟨rb, q * 2, none⟩ = some (.int .i64 (R q).1) ∧ w.cell? ⟨rb, q * 2 + 1, none⟩ = some (.int .i64 (R q).2)
  low : ∀ q, q < m → -9223372036854775808 ≤ (R q).2
theorem Runs.kept {C : Nat} {w w' : World} {rb m : Nat} {R : Nat → Int × Int} {S : Nat → Prop} (h : Runs C w rb m R) (hk : Kept S w w') (hC : C ≤ w.heap.size) (hS : ∀ k, k < C → ¬ S k) : Runs C w' rb m R :=
  ⟨h.at_, fun q hq => ⟨(World.cell?_of_block (a := ⟨rb, q * 2, none⟩) (hk.block rb (by have := h.at_; omega) (hS rb h.at_))).trans (h.cells q hq).1, (World.cell?_of_block (a := ⟨rb, q * 2 + 1, none⟩) (hk.block rb (by have := h.at_; omega) (hS rb h.at_))).trans (h.cells q hq).2⟩, h.low⟩

theorem own_kept {w w' : World} {base e size n : Nat} {v : Value} {xs : List Value} {S : Nat → Prop} (h : w.ownsRow base e size v n xs) (hk : Kept S w w') (hS : ∀ k, base ≤ k → ¬ S k) : w'.ownsRow base e size v n xs := by
  refine ⟨h.1, h.2.imp id ?_⟩
  rintro ⟨g, cap, cur, h1, h2, h3, h4⟩
  exact ⟨g, cap, cur, h1, h2, (hk.block g (lt_of_block h3) (hS g h2)).trans h3, h4⟩
theorem Log.kept {lb B : Nat} {w w' : World} {log : List Nat} (h : Log lb B w log) (hk : Kept (fun _ => False) w w') : Log lb B w' log := by
  obtain ⟨h1, h2, v, h3, h4⟩ := h
  exact ⟨h1, Nat.le_trans h2 hk.size, v, (hk.block lb (by omega) (fun h => h)).trans h3, own_kept h4 hk (fun _ _ h => h)⟩
theorem Log.stored {lb B pb i : Nat} {w : World} {log : List Nat} (h : Log lb B w log) (hp : pb < lb) (u : Value) : Log lb B (w.setCell ⟨pb, i, none⟩ u) log := by
  obtain ⟨h1, h2, v, h3, h4⟩ := h
  exact ⟨h1, by simpa [World.setCell] using h2, v, (Below.heap_setCell _ _ _ _ (by simp; omega)).trans h3, ownsRow_setCell_below h4 (by simp; omega) u⟩
theorem pl0 {w : World} {pb n cap st : Nat} {a : Option Addr} (h : w.heap[pb]? = some (plb a n cap st)) : w.cell? ⟨pb, 0, none⟩ = some (.slice a n cap) := by simp [World.cell?, h]
theorem pl3 {w : World} {pb n cap st : Nat} {a : Option Addr} (h : w.heap[pb]? = some (plb a n cap st)) : w.cell? ⟨pb, 3, none⟩ = some (.int .i64 (st : Int)) := by simp [World.cell?, h]
theorem pf3 {w : World} {pb n cap st : Nat} {a : Option Addr} (h : w.heap[pb]? = some (plb a n cap st)) : w.frozen? ⟨pb, 3, none⟩ = false := by simp [World.frozen?, h]

theorem CInv.next {pb lb B : Nat} {a : Option Addr} {cap : Nat} {zs : List Int} {R : Nat → Int × Int} {w : World} {r : Nat} {log : List Nat} {st : Nat} {wr w2 w3 : World} {i j p : Nat} {F L : Int} {cv : List Nat} (h : CInv pb lb B a cap zs R w r log st wr)
    (hpb : pb < lb) (hlb : lb < B) (hB : B ≤ w.heap.size) (hF : F = (R r).1) (hLL : L = (R r).2) (hb : Btw zs F L i j) (hp : p ≤ 128) (hk : Kept (fun _ => False) wr w2) (hcv : cv = covF (j + zs.length) (i + zs.length) (j + zs.length)) (hcl : cv.length ≤ 1024)
    (hL : Log lb B w3 (log ++ cv)) (hk3 : Kept (LogS lb B) w2 w3) (X : Int) (hX : X = (st : Int) + ((p : Int) + (cv.length : Int))) :
    CInv pb lb B a cap zs R w (r + 1) (log ++ cv) (st + (p + cv.length)) (w3.setCell ⟨pb, 3, none⟩ (.int .i64 X)) := by
  subst hF
  subst hLL
  have h2 := h.lo
  have h3 := h.hi
  have hs := h.kept.size
  have hs2 := hk.size
  have hp3 : w3.heap[pb]? = some (plb a zs.length cap st) := (hk3.block pb (by omega) (fun h => by rcases h with h | h <;> omega)).trans ((hk.block pb (by omega) (fun h => h)).trans h.p)
  refine ⟨hL.stored hpb _, by simp; omega, by omega, ?_, by rw [hcv]; exact .step h.logged hb, ?_⟩
  · rw [Joins.block_setCell (i := 3) hp3, hX]
    simp
  · exact ((h.kept.trans (hk.wider (fun _ _ h => h.elim))).trans (hk3.wider (fun k _ h => .inr h))).setCell (p := ⟨pb, 3, none⟩) (.inl rfl) _

theorem wrap_small (x : Int) (h0 : 0 ≤ x) (h1 : x ≤ 9000000) : IntKind.i64.wrap x = x := by rw [IntKind.wrap_i64]; omega
theorem wrap_sum (st p c : Nat) (h1 : st ≤ 400000) (h2 : p ≤ 128) (h3 : c ≤ 1024) : IntKind.i64.wrap ((st : Int) + IntKind.i64.wrap ((p : Int) + (c : Int))) = (st : Int) + ((p : Int) + (c : Int)) := by
  rw [wrap_small ((p : Int) + (c : Int)) (by omega) (by omega), wrap_small _ (by omega) (by omega)]

theorem row_cv (lb B n i j : Nat) (log : List Nat) (w : World) (h : Log lb B w log) (hn : n ≤ 256) (hi : i ≤ n) (hj : j ≤ n) (hlen : log.length ≤ 900000) :
    Calls Yba.prog 12 #[.int .i64 n, .int .i64 i, .int .i64 j, vis lb] w fun e w' => ∃ cv : List Nat, e = .returned (.int .i64 (cv.length : Nat)) ∧ Hid (cv = covF (j + n) (i + n) (j + n)) ∧ cv.length ≤ 1024 ∧ Hid (Log lb B w' (log ++ cv)) ∧ Hid (Kept (LogS lb B) w w') :=
  (row_any lb B n i j log w h hn hi hj hlen).mono fun e w' ⟨h1, h2, h3⟩ => ⟨_, h1, rfl, by have := covF_len (j + n) (i + n) (j + n); omega, h2, h3⟩

set_option maxHeartbeats 4000000 in
theorem cover_any (pb lb B rb m : Nat) (a : Option Addr) (cap : Nat) (zs : List Int) (R : Nat → Int × Int) (w : World) (hlog : Log lb B w []) (hp : w.heap[pb]? = some (plb a zs.length cap 0))
    (hpb : pb < lb) (hm : m ≤ 256) (hR : Runs pb w rb m R) (hC : Cols pb w a cap zs) :
    Calls Yba.prog 7 #[.pointer (some ⟨pb, 0, none⟩), .slice (some ⟨rb, 0, none⟩) m m, vis lb] w (CovPost pb lb B a cap zs R w m) := by
  have HP : Hid (∀ log st w', CInv pb lb B a cap zs R w m log st w' → CovPost pb lb B a cap zs R w m (.returned (.tuple #[])) w') := fun log st w' h => ⟨rfl, log, st, h⟩
  generalize CovPost pb lb B a cap zs R w m = P at *
  have hlb := hlog.1
  have hBs := hlog.2.1
  have HI0 : Hid (CInv pb lb B a cap zs R w 0 [] 0 w) := ⟨hlog, by simp, by simp, hp, .nil, Kept.refl _ _⟩
  have HR : Hid (Runs pb w rb m R) := hR
  have HC : Hid (Cols pb w a cap zs) := hC
  clear hlog hp hR hC
  go_enter Yba.func7, Yba.ntmps7
  go_wp2
  go_loopw [13] (fun i wr => ∃ (r : Nat) (log : List Nat) (st : Nat), r ≤ m ∧ i = .int .i64 r ∧ Hid (CInv pb lb B a cap zs R w r log st wr)) (fun i _ => m - (intOf i).toNat)
  case atStart => exact ⟨0, [], 0, by omega, rfl, HI0⟩
  case round =>
    clear HI0
    obtain ⟨r, log, st, hr, rfl, HI⟩ := hrel
    by_cases hlt : r < m
    · have hR1 := (HR.out.kept HI.out.kept (by omega) (fun k hk h => by rcases h with h | h | h <;> omega))
      obtain ⟨cF, cL⟩ := hR1.cells r hlt
      have hL := hR1.low r hlt
      obtain ⟨F, hF⟩ : ∃ F, F = (R r).1 := ⟨_, rfl⟩
      obtain ⟨L, hLL⟩ : ∃ L, L = (R r).2 := ⟨_, rfl⟩
      rw [← hF] at cF
      rw [← hLL] at cL hL
      have HF : Hid (F = (R r).1) := hF
      have HLL : Hid (L = (R r).2) := hLL
      clear hF hLL hR1
      go_wp2
      obtain ⟨w1, hw1⟩ : ∃ w1, w1 = wr.alloc (.cells #[.int .i64 F, .int .i64 L] 30) := ⟨_, rfl⟩
      have hk1 : Kept (fun _ => False) wr w1 := hw1 ▸ (Kept.refl _ _).alloc _
      have hx : w1.heap[wr.heap.size]? = some (.cells #[.int .i64 F, .int .i64 L] 30 (0, 0)) := by rw [hw1]; exact heap_alloc_new _ _
      have hws : B ≤ wr.heap.size := HI.out.lg.2.1
      rw [← hw1]
      have hC1 := (HC.out.kept HI.out.kept (by omega) (fun k hk h => by rcases h with h | h | h <;> omega)).kept hk1 (by omega) (fun _ _ h => h)
      have hp1 := (hk1.block pb (by omega) (fun h => h)).trans HI.out.p
      generalize wr.heap.size = N at hx ⊢
      have x0 : w1.cell? ⟨N, 0, none⟩ = some (.int .i64 F) := by simp [World.cell?, hx]
      have x1 : w1.cell? ⟨N, 1, none⟩ = some (.int .i64 L) := by simp [World.cell?, hx]
      have p0 := pl0 hp1
      have HC1 : Hid (Cols pb w1.drew a cap zs) := ⟨hC1.len, hC1.inc, hC1.top, hC1.mem⟩
      have HK1 : Hid (Kept (fun _ => False) wr w1) := hk1
      clear hw1 hx hp1 hC1 hk1 cF cL
      go_region_with (go_at_call 11; refine (btw_cols (C := pb) HC1.out F L hL).mono ?_; rintro e w2 ⟨i, j, p, rfl, hB, hp, hk2⟩)
      all_goals
        have hk12 : Kept (fun _ => False) wr w2 := HK1.out.drew.trans hk2
        have hp2 := (hk12.block pb (by omega) (fun h => h)).trans HI.out.p
        have HL2 : Hid (Log lb B w2.drew log) := HI.out.lg.kept hk12.drew
        have c0 := pl0 hp2
        have c3 := pl3 hp2
        have f3 := pf3 hp2
        have hz := HC1.out.len
        have hiz := hB.1
        have hjz := hB.2.1
        have hst : st ≤ 1200 * r := HI.out.hi
        have hll : log.length ≤ 900000 := by have := HI.out.lo; omega
        have hps : pb < w2.heap.size := lt_of_block hp2
        have HB : Hid (Btw zs F L i j) := hB
        have HP2 : Hid (w2.heap[pb]? = some (plb a zs.length cap st)) := hp2
        have HK2 : Hid (Kept (fun _ => False) wr w2) := hk12
        clear hk12 hp2 hB hk2 HK1 x0 x1 p0
        go_wp2
        go_region_with (go_at_call 12; refine (row_cv lb B zs.length i j log w2.drew HL2.out hz hiz hjz hll).mono ?_; rintro e w3 ⟨cv, rfl, HCV, hcl, HL3, HK3⟩; have hp3 := (HK3.out.block pb hps (fun h => by rcases h with h | h <;> omega)).trans HP2.out; have c33 := pl3 hp3; have f33 := pf3 hp3; clear hp3)
        all_goals
          have HN : Hid (CInv pb lb B a cap zs R w (r + 1) (log ++ cv) (st + (p + cv.length)) (w3.setCell ⟨pb, 3, none⟩ (.int .i64 (IntKind.i64.wrap (↑st + IntKind.i64.wrap (↑p + ↑cv.length)))))) :=
            HI.out.next hpb hlb hBs HF.out HLL.out HB.out hp HK2.out.drew HCV.out hcl HL3.out HK3.out _ (wrap_sum st p cv.length (by omega) hp hcl)
          clear HI HL3 HK3 HK2 HP2 HB HL2 c0 c3 f3 c33 f33 HC1 HC HR HP
          obtain ⟨w4, hw4⟩ : ∃ w4, w4 = w3.setCell ⟨pb, 3, none⟩ (.int .i64 (IntKind.i64.wrap (↑st + IntKind.i64.wrap (↑p + ↑cv.length)))) := ⟨_, rfl⟩
          rw [← hw4] at HN ⊢
          clear hw4
          go_wp2
          go_roundw
          case rel => exact ⟨r + 1, _, _, by omega, by go_num, HN⟩
          case measure => simp [intOf]; omega
    · obtain rfl : r = m := by omega
      have HF := HP.out log st
      have HF2 : Hid (P (.returned (.tuple #[])) wr) := HF wr HI.out
      clear HF HI HP
      go_wp2
      go_end0
      exact HF2.out
end Go.Proofs.Ybulkqnq

/-
  between: the columns of a run.
-/
import Derived.Test.YbulkqnqRow
import Derived.Test.YbulkqnqShelf
import Derived.Deep.QuietTactic
import Derived.BigQuiet
namespace Go.Proofs.Ybulkqnq
open Go.RowKit

theorem getD_get {zs : List Int} {t : Nat} (h : t < zs.length) : zs.getD t 0 = zs[t] := by
  rw [List.getD_eq_getElem?_getD, List.getElem?_eq_getElem h]; rfl
theorem count_none (x : Int) : ∀ zs : List Int, (∀ y ∈ zs, ¬ y < x) → zs.countP (fun y => decide (y < x)) = 0
  | [], _ => rfl
  | y :: l, h => by
    rw [List.countP_cons_of_neg (by simpa using h y (by simp)), count_none x l (fun z hz => h z (by simp [hz]))]
theorem count_lt (x : Int) : ∀ zs : List Int, zs.Pairwise (· < ·) → ∀ t, t < zs.length → (t < zs.countP (fun y => decide (y < x)) ↔ zs.getD t 0 < x)
  | [], _, t, ht => by simp at ht
  | y :: l, h, t, ht => by
    rw [List.pairwise_cons] at h
    by_cases e : y < x
    · rw [List.countP_cons_of_pos (by simpa using e)]
      cases t with
      | zero => simpa using e
      | succ t =>
        have := count_lt x l h.2 t (by simpa using ht)
        simp only [List.getD_cons_succ]
        omega
    · have hn : ∀ z ∈ y :: l, ¬ z < x := by
        intro z hz
        rcases List.mem_cons.1 hz with rfl | hz
        · exact e
        · have := h.1 z hz; omega
      rw [count_none x (y :: l) hn]
      have hm : (y :: l).getD t 0 ∈ y :: l := by
        rw [getD_get ht]
        exact List.getElem_mem _
      have := hn _ hm
      omega
theorem incr {zs : List Int} (h : zs.Pairwise (· < ·)) {s t : Nat} (hst : s < t) (ht : t < zs.length) : zs.getD s 0 < zs.getD t 0 := by
  rw [getD_get ht, getD_get (show s < zs.length by omega)]
  exact List.pairwise_iff_getElem.1 h s t (by omega) ht hst

/-- Columns i .. j - 1 are those that the run holds. -/
def Btw (zs : List Int) (F L : Int) (i j : Nat) : Prop :=
  i ≤ zs.length ∧ j ≤ zs.length ∧ ∀ t, t < zs.length → ((i ≤ t ∧ t < j) ↔ (F ≤ zs.getD t 0 ∧ zs.getD t 0 ≤ L))

def BtwPost (zs : List Int) (F L : Int) (w : World) (e : Ending) (w' : World) : Prop :=
  ∃ i j p : Nat, e = .returned (.tuple #[.int .i64 i, .int .i64 j, .int .i64 p]) ∧ Btw zs F L i j ∧ p ≤ 128 ∧ Kept (fun _ => False) w w'

theorem Kept.drewN {S : Nat → Prop} {w w1 : World} (h : Kept S w w1) (n : Nat) : Kept S w (w1.drewN n) := ⟨h.os, h.tape, h.output, h.size, h.block⟩

set_option maxHeartbeats 400000 in
theorem probes_any (n : Nat) (w : World) (hn : n ≤ 256) :
    Calls Yba.prog 25 #[.int .i64 n] w fun e w' => (∃ p : Nat, e = .returned (.int .i64 p) ∧ p ≤ 64) ∧ w' = w := by
  have hb : Lib.bitLen (n : Int).toNat ≤ 64 := Lib.bitLen_le _ 64 (by omega) (by omega)
  go_enter Yba.func25, Yba.ntmps25
  go_wp2_with fail
  refine (Yba.bits_Len n w (by omega) (by omega)).mono ?_
  rintro e w' ⟨rfl, rfl⟩
  generalize Lib.bitLen (n : Int).toNat = p at *
  go_wp2
  go_ret
  exact ⟨⟨p, rfl, hb⟩, rfl⟩

theorem probes_int (n : Nat) (X : Int) (hX : X = (n : Int)) (w : World) (hn : n ≤ 256) :
    Calls Yba.prog 25 #[.int .i64 X] w fun e w' => (∃ p : Nat, e = .returned (.int .i64 p) ∧ p ≤ 64) ∧ w' = w := by
  subst hX
  exact probes_any n w hn

theorem quiet_at {P : Program} {f : FuncId} {args : Array Value} {w : World} {a n : Nat} {v : Value}
    (h : Calls P f args (w.drewN (a + n)) fun e w' => e = .returned v ∧ ∃ m, w' = (w.drewN (a + n)).drewN m) : Calls P f args (w.drewN (a + n)) fun e w'' => e = .returned v ∧ ∃ m, w'' = w.drewN (a + m) :=
  h.mono fun _ _ ⟨he, m, hm⟩ => ⟨he, n + m, by rw [hm, World.drewN_drewN, Nat.add_assoc]⟩

/-- The second search, of the columns from i on. -/
theorem search2 (b cap k i : Nat) (zs : List Int) (X : Int) (w : World) (hn : zs.length = k + 1) (hk : k + 1 ≤ 256) (hi : i ≤ k) (hs : zs.Pairwise (· < ·))
    (hc : ∀ j, j < zs.length → w.cell? ⟨b, j, none⟩ = some (.int .i64 (zs.getD j 0))) : ∃ (c : Nat) (ct : Bool), i + c ≤ k + 1 ∧ (∀ t, i ≤ t → t < zs.length → (t < i + c ↔ zs.getD t 0 < X)) ∧
    ∀ wx : World, wx.heap = w.heap → Calls Yba.prog 24 #[.slice (some ⟨b, i, none⟩) (k + 1 - i) cap, .int .i64 X] wx fun e w' => e = .returned (.tuple #[.int .i64 c, .bool ct]) ∧ ∃ q, w' = wx.drewN q := by
  have hl : (zs.drop i).length = k + 1 - i := by simp; omega
  have hd : (zs.drop i).Pairwise (· < ·) := hs.sublist (List.drop_sublist _ _)
  have hg : ∀ j, (zs.drop i).getD j 0 = zs.getD (i + j) 0 := fun j => by
    rw [List.getD_eq_getElem?_getD, List.getD_eq_getElem?_getD, List.getElem?_drop]
  have ht : (zs.drop i).take (k + 1 - i) = zs.drop i := List.take_of_length_le (by omega)
  refine ⟨(zs.drop i).countP (fun y => decide (y < X)), (zs.drop i).contains X, ?_, ?_, ?_⟩
  · have := List.countP_le_length (p := fun y => decide (y < X)) (l := zs.drop i)
    omega
  · intro t h1 h2
    have := count_lt X (zs.drop i) hd (t - i) (by omega)
    rw [hg, show i + (t - i) = t by omega] at this
    rw [← this]
    omega
  · intro wx hwx
    have := Yba.slices_BinarySearch_int b i (k + 1 - i) cap (zs.drop i) X wx (by omega) (by omega) (fun j hj => by rw [hg, World.cell?_of_block (w := w) (a := ⟨b, i + j, none⟩) (by rw [hwx])]; exact hc (i + j) (by omega)) (by rw [ht]; exact hd.imp (fun h => by omega))
    rw [ht] at this
    exact this

set_option maxHeartbeats 1000000 in
theorem between_none (a : Option Addr) (cap : Nat) (F L : Int) (w : World) :
    Calls Yba.prog 11 #[.slice a 0 cap, .agg #[.int .i64 F, .int .i64 L]] w (BtwPost [] F L w) := by
  have HP : Hid (∀ m, BtwPost [] F L w (.returned (.tuple #[.int .i64 0, .int .i64 0, .int .i64 0])) ((w.alloc (.cells #[.int .i64 F, .int .i64 L] 30)).drewN m)) :=
    fun m => ⟨0, 0, 0, rfl, ⟨Nat.zero_le _, Nat.zero_le _, fun t ht => by simp at ht⟩, by omega, ((Kept.refl _ _).alloc _).drewN _⟩
  go_enter Yba.func11, Yba.ntmps11
  go_wp2
  go_quiet (fail)
  go_wp2
  go_ret3
  exact HP.out _

set_option maxHeartbeats 4000000 in
theorem between_any (b cap k : Nat) (zs : List Int) (F L : Int) (w : World) (hn : zs.length = k + 1) (hk : k + 1 ≤ 256) (hcap : k + 1 ≤ cap) (hs : zs.Pairwise (· < ·))
    (hc : ∀ j, j < zs.length → w.cell? ⟨b, j, none⟩ = some (.int .i64 (zs.getD j 0))) (hL : -9223372036854775808 ≤ L) (hl : zs.getD k 0 ≤ 9223372036854775807) :
    Calls Yba.prog 11 #[.slice (some ⟨b, 0, none⟩) (k + 1) cap, .agg #[.int .i64 F, .int .i64 L]] w (BtwPost zs F L w) := by
  have HP : Hid (∀ (i j p : Nat) (w' : World), Btw zs F L i j → p ≤ 128 → Kept (fun _ => False) w w' → BtwPost zs F L w (.returned (.tuple #[.int .i64 i, .int .i64 j, .int .i64 p])) w') :=
    fun i j p w' h1 h2 h3 => ⟨i, j, p, rfl, h1, h2, h3⟩
  generalize BtwPost zs F L w = P at *
  go_enter Yba.func11, Yba.ntmps11
  go_wp2
  obtain ⟨w1, hw1⟩ : ∃ w1, w1 = w.alloc (.cells #[.int .i64 F, .int .i64 L] 30) := ⟨_, rfl⟩
  have hk1 : Kept (fun _ => False) w w1 := hw1 ▸ (Kept.refl _ _).alloc _
  have hcb : ∀ j, j < zs.length → b < w.heap.size := fun j hj => World.block_lt_of_cell? _ _ (hc j hj)
  have hc1 : ∀ j, j < zs.length → w1.cell? ⟨b, j, none⟩ = some (.int .i64 (zs.getD j 0)) := fun j hj =>
    (World.cell?_of_block (a := ⟨b, j, none⟩) (hk1.block b (hcb j hj) (fun h => h))).trans (hc j hj)
  have hr : w1.heap[w.heap.size]? = some (.cells #[.int .i64 F, .int .i64 L] 30 (0, 0)) := by rw [hw1]; exact heap_alloc_new _ _
  rw [← hw1]
  generalize w.heap.size = N at hr ⊢
  clear hw1 hcb hc
  have cF : w1.cell? ⟨N, 0, none⟩ = some (.int .i64 F) := by simp [World.cell?, hr]
  have cL : w1.cell? ⟨N, 1, none⟩ = some (.int .i64 L) := by simp [World.cell?, hr]
  have c0 := hc1 0 (by omega)
  have ck := hc1 k (by omega)
  obtain ⟨z0, hz0⟩ : ∃ z0, z0 = zs.getD 0 0 := ⟨_, rfl⟩
  obtain ⟨zk, hzk⟩ : ∃ zk, zk = zs.getD k 0 := ⟨_, rfl⟩
  have h0 : ∀ t, t < zs.length → z0 ≤ zs.getD t 0 := fun t ht => by
    rcases Nat.eq_zero_or_pos t with rfl | h
    · omega
    · have := incr hs h ht; omega
  have h1 : ∀ t, t < zs.length → zs.getD t 0 ≤ zk := fun t ht => by
    by_cases e : t = k
    · subst e; omega
    · have := incr hs (show t < k by omega) (by omega); omega
  rw [← hz0] at c0
  rw [← hzk] at ck hl
  have H0 : Hid (∀ t, t < zs.length → z0 ≤ zs.getD t 0) := h0
  have H1 : Hid (∀ t, t < zs.length → zs.getD t 0 ≤ zk) := h1
  have HC : Hid (∀ j, j < zs.length → w1.cell? ⟨b, j, none⟩ = some (.int .i64 (zs.getD j 0))) := hc1
  have HN : Hid (zs.length = k + 1) := hn
  have HS : Hid (zs.Pairwise (· < ·)) := hs
  have HK : Hid (Kept (fun _ => False) w w1) := hk1
  have HZ : Hid (zk = zs.getD k 0) := hzk
  clear h0 h1 hc1 hr hz0 hzk hn hs hk1
  have hwr : IntKind.i64.wrap (k : Int) = (k : Int) := by rw [IntKind.wrap_i64]; omega
  have hne : ((k : Int) + 1 == 0) = false := by simp; omega
  by_cases e1 : L < z0
  · have HF : Hid (∀ m, P (.returned (.tuple #[.int .i64 0, .int .i64 0, .int .i64 0])) (w1.drewN m)) := fun m => HP.out 0 0 0 _ ⟨by omega, by omega, fun t ht => by have := H0.out t ht; omega⟩ (by omega) (HK.out.drewN m)
    go_quiet (fail)
    go_wp2
    go_ret3
    exact HF.out _
  by_cases e2 : zk < F
  · have HF : Hid (∀ m, P (.returned (.tuple #[.int .i64 0, .int .i64 0, .int .i64 0])) (w1.drewN m)) := fun m => HP.out 0 0 0 _ ⟨by omega, by omega, fun t ht => by have := H1.out t ht; omega⟩ (by omega) (HK.out.drewN m)
    go_quiet (fail)
    go_wp2
    go_ret3
    exact HF.out _
  go_quiet (fail)
  go_wp2
  by_cases e3 : z0 < F
  · go_quiet (fail)
    go_wp2_with fail
    refine (Yba.slices_BinarySearch_int b 0 (k + 1) cap zs F _ (by rw [HN.out]; omega) (by omega) (fun j hj => by rw [Nat.zero_add]; exact HC.out j hj) (HS.out.imp (fun h => by omega) |>.sublist (List.take_sublist _ _))).mono ?_
    rintro e w2 ⟨rfl, q2, rfl⟩
    rw [List.take_of_length_le (show zs.length ≤ k + 1 by rw [HN.out]; omega)]
    have hil := List.countP_le_length (p := fun y => decide (y < F)) (l := zs)
    have HI : Hid (∀ t, t < zs.length → (t < zs.countP (fun y => decide (y < F)) ↔ zs.getD t 0 < F)) := count_lt F zs HS.out
    generalize zs.countP (fun y => decide (y < F)) = i at hil HI ⊢
    generalize zs.contains F = ct
    have hik : i ≤ k := by
      have h1 := HI.out k (by rw [HN.out]; omega)
      have h2 := HN.out
      have h3 := HZ.out
      omega
    clear hil
    obtain ⟨c, ct2, hc2, hC2, hS2⟩ := search2 b (cap - i) k i zs (L + 1) w1 HN.out hk hik HS.out HC.out
    have HC2 : Hid (∀ t, i ≤ t → t < zs.length → (t < i + c ↔ zs.getD t 0 < L + 1)) := hC2
    have HS2 : Hid (∀ wx : World, wx.heap = w1.heap → Calls Yba.prog 24 #[.slice (some ⟨b, i, none⟩) (k + 1 - i) (cap - i), .int .i64 (L + 1)] wx fun e w' => e = .returned (.tuple #[.int .i64 c, .bool ct2]) ∧ ∃ q, w' = wx.drewN q) := hS2
    clear hC2 hS2
    go_wp2_with fail
    refine (probes_int (k + 1) _ (by omega) _ hk).mono ?_
    rintro e w3 ⟨⟨p, rfl, hp⟩, rfl⟩
    by_cases e4 : L < zk
    · go_wp2
      go_quiet (fail)
      go_wp2
      go_quiet ((go_at_call 24; exact quiet_at (HS2.out _ rfl)))
      go_wp2_with fail
      refine (probes_int (k + 1 - i) _ (by omega) _ (by omega)).mono ?_
      rintro e w3 ⟨⟨p2, rfl, hp2⟩, rfl⟩
      have HF : Hid (∀ w', Kept (fun _ => False) w w' → P (.returned (.tuple #[.int .i64 i, .int .i64 ((c : Int) + i), .int .i64 ((p : Int) + p2)])) w') := fun w' hw' => by
        have := HP.out i (c + i) (p + p2) w' ⟨by rw [HN.out]; omega, by rw [HN.out]; omega, fun t ht => by have h2 := HI.out t ht; have h4 := HC2.out t; have h3 := HN.out; omega⟩ (by omega) hw'
        simpa using this
      go_wp2
      go_ret3
      refine HF.out _ ?_
      repeat (refine Kept.drewN ?_ _)
      exact HK.out
    · have HF : Hid (∀ w', Kept (fun _ => False) w w' → P (.returned (.tuple #[.int .i64 i, .int .i64 ((k : Int) + 1), .int .i64 p])) w') := fun w' hw' => by
        have := HP.out i (k + 1) p w' ⟨by rw [HN.out]; omega, by rw [HN.out]; omega, fun t ht => by have h1 := H1.out t ht; have h2 := HI.out t ht; have h3 := HN.out; omega⟩ (by omega) hw'
        exact this
      go_wp2
      go_quiet (fail)
      go_wp2
      go_ret3
      refine HF.out _ ?_
      repeat (refine Kept.drewN ?_ _)
      exact HK.out
  · go_quiet (fail)
    obtain ⟨c, ct2, hc2, hC2, hS2⟩ := search2 b cap k 0 zs (L + 1) w1 HN.out hk (Nat.zero_le _) HS.out HC.out
    have HC2 : Hid (∀ t, 0 ≤ t → t < zs.length → (t < 0 + c ↔ zs.getD t 0 < L + 1)) := hC2
    have HS2 : Hid (∀ wx : World, wx.heap = w1.heap → Calls Yba.prog 24 #[.slice (some ⟨b, 0, none⟩) (k + 1) cap, .int .i64 (L + 1)] wx fun e w' => e = .returned (.tuple #[.int .i64 c, .bool ct2]) ∧ ∃ q, w' = wx.drewN q) := hS2
    clear hC2 hS2
    by_cases e4 : L < zk
    · go_wp2
      go_quiet (fail)
      go_wp2
      go_quiet ((go_at_call 24; exact quiet_at (HS2.out _ rfl)))
      go_wp2_with fail
      refine (probes_int (k + 1) _ (by omega) _ (by omega)).mono ?_
      rintro e w3 ⟨⟨p2, rfl, hp2⟩, rfl⟩
      have HF : Hid (∀ w', Kept (fun _ => False) w w' → P (.returned (.tuple #[.int .i64 0, .int .i64 (c : Int), .int .i64 (p2 : Int)])) w') := fun w' hw' => by
        have := HP.out 0 c p2 w' ⟨by omega, by rw [HN.out]; omega, fun t ht => by have h2 := H0.out t ht; have h4 := HC2.out t; have h3 := HN.out; omega⟩ (by omega) hw'
        simpa using this
      go_wp2
      go_ret3
      refine HF.out _ ?_
      repeat (refine Kept.drewN ?_ _)
      exact HK.out
    · have HF : Hid (∀ w', Kept (fun _ => False) w w' → P (.returned (.tuple #[.int .i64 0, .int .i64 ((k : Int) + 1), .int .i64 0])) w') := fun w' hw' => by
        have := HP.out 0 (k + 1) 0 w' ⟨by omega, by rw [HN.out]; omega, fun t ht => by have h1 := H1.out t ht; have h2 := H0.out t ht; have h3 := HN.out; omega⟩ (by omega) hw'
        simpa using this
      go_wp2
      go_quiet (fail)
      go_wp2
      go_ret3
      refine HF.out _ ?_
      repeat (refine Kept.drewN ?_ _)
      exact HK.out
end Go.Proofs.Ybulkqnq

import Derived.Test.YbulkqmaRaw
namespace Go.Proofs.Ybulkqma
open Go.RowKit

/-- The first k bytes of the body are laid. -/
structure BInv (N L : Nat) (w : World) (k : Nat) (wr : World) : Prop where
  blk : ∃ cur : Array Value, wr.heap[N]? = some (.cells cur 5 (0, 0)) ∧ cur.size = L ∧ (∀ j, j < k → ∃ c, cur[j]? = some (.int .u8 c) ∧ 0 ≤ c ∧ c ≤ 255)
  below : Below N w wr

theorem BInv.step {N L k : Nat} {w wr : World} {c : Int} (h : BInv N L w k wr) (hk : k < L) (h0 : 0 ≤ c) (h1 : c ≤ 255) : BInv N L w (k + 1) (wr.setCell ⟨N, k, none⟩ (.int .u8 c)) := by
  obtain ⟨cur, hq, hs, hc⟩ := h.blk
  refine ⟨⟨_, Joins.block_setCell (i := k) hq (.int .u8 c), by simpa using hs, fun j hj => ?_⟩, h.below.setCell (p := ⟨N, k, none⟩) (Nat.le_refl _) _⟩
  by_cases e : j = k
  · subst e
    exact ⟨c, by simp [hs, hk], h0, h1⟩
  · obtain ⟨c', h2, h3⟩ := hc j (by omega)
    exact ⟨c', by rw [Array.getElem?_setIfInBounds_ne (by omega)]; exact h2, h3⟩

theorem BInv.cell {N L k : Nat} {w wr : World} (h : BInv N L w k wr) (hk : k < L) : ∃ v, wr.cell? ⟨N, k, none⟩ = some v ∧ wr.frozen? ⟨N, k, none⟩ = false := by
  obtain ⟨cur, hq, hs, hc⟩ := h.blk
  refine ⟨cur[k], ?_, by simp [World.frozen?, hq]⟩
  simp only [World.cell?, hq]
  simp [hs, hk]

theorem BInv.body {N L : Nat} {w wr : World} (h : BInv N L w L wr) : ∃ f, Body wr N L f ∧ N < wr.heap.size := by
  obtain ⟨cur, hq, hs, hc⟩ := h.blk
  refine ⟨fun i => intOf (cur[i]?.getD undef), fun i hi => ?_, lt_of_block hq⟩
  obtain ⟨c, h2, h3⟩ := hc i hi
  have e : intOf (cur[i]?.getD undef) = c := by rw [h2]; rfl
  refine ⟨?_, by show 0 ≤ intOf (cur[i]?.getD undef) ∧ intOf (cur[i]?.getD undef) ≤ 255; rw [e]; exact h3⟩
  show wr.cell? _ = some (.int .u8 (intOf (cur[i]?.getD undef)))
  rw [e]
  simp only [World.cell?, hq]
  simpa using h2

theorem byte_le (b : UInt8) : ((b.toNat : Nat) : Int) ≤ 255 := by
  have := b.toNat_lt
  omega
theorem IsObjs.later {N : Nat} {w wr : World} {a : Option Addr} {n : Nat} {O : Nat → Bool} (h : IsObjs w a n O) (hb : Below N w wr) (hN : N = w.heap.size) : IsObjs wr a n O := by
  rcases h with h | ⟨b, off, h1, h2, h3⟩
  · exact .inl h
  · exact .inr ⟨b, off, h1, by have := hb.size; omega, fun i hi => (hb.cell (p := ⟨b, off + i, none⟩) (by rw [hN]; exact h2)).trans (h3 i hi)⟩

set_option maxRecDepth 100000 in
set_option maxHeartbeats 2000000 in
theorem closes_walk (a0 a1 : Option Addr) (len0 cap0 len1 cap1 : Nat) (f : Nat → Int) (O : Nat → Bool) (p d : Int) (w : World) (h0 : IsBytes w a0 len0 f) (h1 : IsObjs w a1 len1 O) (hp0 : 0 ≤ p) (hp1 : p ≤ 65535) (hd0 : 0 ≤ d) (hd1 : d ≤ 255) (hl0 : len0 ≤ 1024) (hl1 : len1 ≤ 256) :
    Calls Yba.prog 3 #[.slice a0 len0 cap0, .slice a1 len1 cap1, .int .u16 p, .int .u8 d] w fun e w' => e = .returned (.bool true) ∧ Below w.heap.size w w' := by
  obtain ⟨i0, hi, hz0, hz1, hz2⟩ := info_parts info5
  go_enter Yba.func3, Yba.ntmps3
  go_wp2_with (at_make; refine wpList_make_full _ rfl _ _ 22 rfl w.heap.size 5 i0 _ 1 Yba.underlying22 hi hz0 hz1 _ _ _ _ len0 rfl rfl rfl rfl (by rw [hz2]; omega) (by unfold maxLen; omega) (Nat.le_refl _) ?_)
  intro w1 hown1 hgrow1
  obtain ⟨N, hN⟩ : ∃ N, N = w.heap.size := ⟨_, rfl⟩
  rw [← hN] at hown1
  rw [← hN]
  have HN : Hid (N = w.heap.size) := hN
  have hI : BInv N len0 w 0 w1 := by
    obtain ⟨cur, hg, hcl⟩ := own_block hown1
    exact ⟨⟨cur.toArray, hg, by simpa using hcl, fun j hj => absurd hj (Nat.not_lt_zero _)⟩, by rw [hN]; exact (Below.refl _ _).grown hgrow1 (Nat.le_refl _) (fun k h => by cases h)⟩
  clear hN hgrow1 hown1
  go_wp2
  go_loopw [28] (fun i wr => ∃ k : Nat, k ≤ len0 ∧ i = .int .i64 k ∧ BInv N len0 w k wr) (fun i _ => len0 - (intOf i).toNat)
  case atStart => exact ⟨0, Nat.zero_le _, rfl, hI⟩
  case round =>
    clear hI
    obtain ⟨k, hk, rfl, hI⟩ := hrel
    by_cases hlt : k < len0
    · obtain ⟨b, off, rfl, hb, hc⟩ := h0.resolve_left (by omega)
      have hck := (hI.below.cell (p := ⟨b, off + k, none⟩) (by rw [HN.out]; exact hb)).trans (hc k hlt).1
      have hbd := (hc k hlt).2
      obtain ⟨x, hx⟩ : ∃ x, x = f k := ⟨_, rfl⟩
      rw [← hx] at hck hbd
      obtain ⟨v, hv, hfv⟩ := hI.cell hlt
      clear hc hx
      obtain ⟨hx0, hx1⟩ := hbd
      rcases (show x % 8 = 0 ∨ x % 8 = 1 ∨ x % 8 = 2 ∨ x % 8 = 3 ∨ x % 8 = 4 ∨ x % 8 = 5 ∨ x % 8 = 6 ∨ x % 8 = 7 by omega) with hm | hm | hm | hm | hm | hm | hm | hm
      all_goals
        go_wp2
        go_roundw
        case rel => exact ⟨k + 1, by omega, by go_num, hI.step hlt (Int.natCast_nonneg _) (byte_le _)⟩
        case measure => simp [intOf]; omega
    · obtain rfl : k = len0 := by omega
      obtain ⟨fb, hB, hNl⟩ := hI.body
      have hO := h1.later hI.below HN.out
      have hbel := hI.below
      have hp2 := Int.emod_nonneg p (show (k : Int) + 1 ≠ 0 by omega)
      have hp3 := Int.emod_lt_of_pos p (show 0 < (k : Int) + 1 by omega)
      by_cases hz : len1 = 0
      · subst hz
        have CK := hideP (check_int N k k 0 cap1 (p % ((k : Int) + 1)) 1 a1 fb O wr hl0 (by omega) hNl hB hO hp2 (by omega) (by omega) (.inr rfl))
        clear hB hO hI h0 h1 hp2 hp3
        go_wp2_with fail
        refine CK.out.mono ?_
        rintro e w5 ⟨rfl, hb5⟩
        have hfin : Below w.heap.size w w5 := by rw [← HN.out]; exact hbel.trans (hb5.mono (by omega))
        clear CK
        go_wp2
        go_ret
        exact ⟨rfl, hfin⟩
      · have hq2 := Int.emod_nonneg d (show (len1 : Int) ≠ 0 by omega)
        have hq3 := Int.emod_lt_of_pos d (show 0 < (len1 : Int) by omega)
        have CK := hideP (check_int N k k len1 cap1 (p % ((k : Int) + 1)) (1 + d % (len1 : Int)) a1 fb O wr hl0 (by omega) hNl hB hO hp2 (by omega) (by omega) (.inl (by omega)))
        clear hB hO hI h0 h1 hp2 hp3
        go_wp2_with fail
        refine CK.out.mono ?_
        rintro e w5 ⟨rfl, hb5⟩
        have hfin : Below w.heap.size w w5 := by rw [← HN.out]; exact hbel.trans (hb5.mono (by omega))
        clear CK
        go_wp2
        go_ret
        exact ⟨rfl, hfin⟩

set_option maxRecDepth 100000 in
theorem closes_long (a0 a1 : Option Addr) (len0 cap0 len1 cap1 : Nat) (p d : Int) (w : World) (h : 1024 < len0 ∨ 256 < len1) :
    Calls Yba.prog 3 #[.slice a0 len0 cap0, .slice a1 len1 cap1, .int .u16 p, .int .u8 d] w fun e w' => e = .returned (.bool true) ∧ Below w.heap.size w w' := by
  by_cases h0 : 1024 < len0
  · go_enter Yba.func3, Yba.ntmps3
    go_wp2
    go_ret
    exact ⟨rfl, Below.refl _ _⟩
  · have h1 : 256 < len1 := by omega
    go_enter Yba.func3, Yba.ntmps3
    go_wp2
    go_ret
    exact ⟨rfl, Below.refl _ _⟩

theorem closeslaw_any (a0 a1 : Option Addr) (len0 cap0 len1 cap1 : Nat) (f : Nat → Int) (O : Nat → Bool) (p d : Int) (w : World) (h0 : IsBytes w a0 len0 f) (h1 : IsObjs w a1 len1 O) (hp0 : 0 ≤ p) (hp1 : p ≤ 65535) (hd0 : 0 ≤ d) (hd1 : d ≤ 255) :
    Calls Yba.prog 3 #[.slice a0 len0 cap0, .slice a1 len1 cap1, .int .u16 p, .int .u8 d] w fun e w' => e = .returned (.bool true) ∧ Below w.heap.size w w' := by
  by_cases h : 1024 < len0 ∨ 256 < len1
  · exact closes_long a0 a1 len0 cap0 len1 cap1 p d w h
  · exact closes_walk a0 a1 len0 cap0 len1 cap1 f O p d w h0 h1 hp0 hp1 hd0 hd1 (by omega) (by omega)
end Go.Proofs.Ybulkqma

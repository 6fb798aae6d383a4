import Derived.Test.YbulkqmaSpill
import Derived.Deep.DeepCutAuto
namespace Go.Proofs.Ybulkqma
open Go.RowKit

/-- The places that came in. -/
def IsAts (w : World) (a : Option Addr) (len : Nat) (T : Nat → Int) : Prop :=
  len = 0 ∨ ∃ b off, a = some ⟨b, off, none⟩ ∧ b < w.heap.size ∧ ∀ i, i < len → w.cell? ⟨b, off + i, none⟩ = some (.int .i64 (T i)) ∧ -9223372036854775808 ≤ T i ∧ T i ≤ 9223372036854775807

theorem lv_set (n kn : Int) (kv low la : Value) (sp od : Bool) (A : Nat → Int) (i : Nat) (hi : i < 16) (v : Int) :
    (lvCells n kn kv low la sp od A).setIfInBounds (3 + i) (.int .i64 v) = lvCells n kn kv low la sp od (fun j => if j = i then v else A j) := by
  match i, hi with
  | 0, _ => simp [lvCells]
  | 1, _ => simp [lvCells]
  | 2, _ => simp [lvCells]
  | 3, _ => simp [lvCells]
  | 4, _ => simp [lvCells]
  | 5, _ => simp [lvCells]
  | 6, _ => simp [lvCells]
  | 7, _ => simp [lvCells]
  | 8, _ => simp [lvCells]
  | 9, _ => simp [lvCells]
  | 10, _ => simp [lvCells]
  | 11, _ => simp [lvCells]
  | 12, _ => simp [lvCells]
  | 13, _ => simp [lvCells]
  | 14, _ => simp [lvCells]
  | 15, _ => simp [lvCells]
  | i + 16, h => exact absurd h (by omega)

/-- Behind k places stored. -/
structure FInv (N : Nat) (w : World) (n : Nat) (a0 lo : Option Addr) (ll lc : Nat) (T : Nat → Int) (k : Nat) (wr : World) : Prop where
  q : wr.heap[N]? = some (lvb n 0 (.slice a0 n n) (.slice none 0 0) (.slice lo ll lc) false false (fun j => if j < k then T j else 0))
  below : Below N w wr
  size : N < wr.heap.size

theorem FInv.step {N : Nat} {w : World} {n : Nat} {a0 lo : Option Addr} {ll lc : Nat} {T : Nat → Int} {k : Nat} {wr : World} (h : FInv N w n a0 lo ll lc T k wr) (hk : k < 16) :
    FInv N w n a0 lo ll lc T (k + 1) (wr.setCell ⟨N, 3 + k, none⟩ (.int .i64 (T k))).drew := by
  refine ⟨?_, (h.below.setCell (p := ⟨N, 3 + k, none⟩) (Nat.le_refl _) _).drew, ?_⟩
  · show (wr.setCell ⟨N, 3 + k, none⟩ (.int .i64 (T k))).heap[N]? = _
    rw [Joins.block_setCell (i := 3 + k) h.q, lv_set _ _ _ _ _ _ _ _ _ hk]
    congr 3
    funext j
    by_cases e : j = k
    · subst e; simp
    · by_cases e2 : j < k
      · simp [e, e2, show j < k + 1 by omega]
      · simp [e, e2, show ¬ j < k + 1 by omega]
  · show N < (wr.setCell ⟨N, 3 + k, none⟩ (.int .i64 (T k))).heap.size
    simpa [World.setCell] using h.size

theorem Keys.cut {B : Nat} {w : World} {ak : Option Addr} {n m : Nat} {ka : Nat → Option Addr} {kl kc : Nat → Nat} {S : Nat → ByteArray} (h : Keys B w ak n ka kl kc S) (hm : m ≤ n) : Keys B w ak m ka kl kc S := by
  refine ⟨?_, fun i hi => h.conv i (by omega)⟩
  rcases h.row with h0 | ⟨kb, ko, h1, h2, h3⟩
  · exact .inl (by omega)
  · exact .inr ⟨kb, ko, h1, h2, fun i hi => h3 i (by omega)⟩
theorem Keys.later {B : Nat} {w w' : World} {ak : Option Addr} {n : Nat} {ka : Nat → Option Addr} {kl kc : Nat → Nat} {S : Nat → ByteArray} (h : Keys B w ak n ka kl kc S) (hb : Below B w w') : Keys B w' ak n ka kl kc S := by
  refine ⟨?_, fun i hi wx hx => h.conv i hi wx (hb.trans hx)⟩
  rcases h.row with h0 | ⟨kb, ko, h1, h2, h3⟩
  · exact .inl h0
  · exact .inr ⟨kb, ko, h1, h2, fun i hi => (hb.cell h2).trans (h3 i hi)⟩

/-- Behind spill: nothing is written any more. -/
structure GInv (N : Nat) (w : World) (n : Nat) (a0 : Option Addr) (low la : Value) (od : Bool) (A : Nat → Int) (g p : Nat) (wr : World) : Prop where
  q : wr.heap[N]? = some (lvb n n (.slice a0 n n) low la true od A)
  one : 0 < n → ∃ cp, low = .slice (some ⟨g, 0, none⟩) 1 cp ∧ Marks wr g p n A
  below : Below N w wr
theorem GInv.drew {N : Nat} {w : World} {n : Nat} {a0 : Option Addr} {low la : Value} {od : Bool} {A : Nat → Int} {g p : Nat} {wr : World} (h : GInv N w n a0 low la od A g p wr) : GInv N w n a0 low la od A g p wr.drew :=
  ⟨h.q, fun hn => let ⟨cp, h1, h2⟩ := h.one hn; ⟨cp, h1, h2.kept rfl rfl⟩, h.below.drew⟩

set_option maxRecDepth 100000 in
set_option maxHeartbeats 4000000 in
theorem spill_walk (a0 a1 lo : Option Addr) (len0 cap0 len1 cap1 ll lc : Nat) (pr : Int) (ka : Nat → Option Addr) (kl kc : Nat → Nat) (S : Nat → ByteArray) (SL : ByteArray) (T : Nat → Int) (w : World)
    (hK : Keys w.heap.size w a0 len0 ka kl kc S) (hT : IsAts w a1 len1 T) (hL : ∀ w', Below w.heap.size w w' → (convert 22 9 (.slice lo ll lc)).run Yba.prog w' = .ok (.string SL) w')
    (hl0 : len0 ≤ cap0) (hm : cap0 ≤ maxLen) (hm1 : len1 ≤ maxLen) (hpr : 0 ≤ pr) (hpr2 : pr ≤ 255) :
    Calls Yba.prog 5 #[.slice a0 len0 cap0, .slice a1 len1 cap1, .int .u8 pr, .slice lo ll lc] w fun e w' => e = .returned (.bool true) ∧ Below w.heap.size w w' := by
  unfold maxLen at hm hm1
  go_enter Yba.func5, Yba.ntmps5
  go_upto_if 22 with fail
  go_cut [9] (fun v wc => ∃ n : Nat, v = .int .i64 n ∧ n ≤ len0 ∧ n ≤ len1 ∧ wc = w)
  case first =>
    by_cases h : len1 < len0
    · go_wp2
      go_meet
      case rel => exact ⟨len1, rfl, by omega, by omega, rfl⟩
    · go_wp2
      go_meet
      case rel => exact ⟨len0, rfl, by omega, by omega, rfl⟩
  case rest =>
    obtain ⟨n, rfl, hn0, hn1, rfl⟩ := hcut
    go_upto_if 26 with fail
    go_cut [9] (fun v wx => ∃ n : Nat, v = .int .i64 n ∧ n ≤ len0 ∧ n ≤ len1 ∧ n ≤ 16 ∧ wx = wc)
    case first =>
      by_cases h : 16 < n
      · go_wp2
        go_meet
        case rel => exact ⟨16, rfl, by omega, by omega, by omega, rfl⟩
      · go_wp2
        go_meet
        case rel => exact ⟨n, rfl, by omega, by omega, by omega, rfl⟩
    case rest =>
      clear hn0 hn1
      obtain ⟨n, rfl, hn0, hn1, hn, rfl⟩ := hcut
      go_wp2
      obtain ⟨N, hN⟩ : ∃ N, N = wc.heap.size := ⟨_, rfl⟩
      obtain ⟨w1, hw1⟩ : ∃ w1, w1 = wc.alloc (.cells (lvCells n 0 (.slice a0 n n) (.slice none 0 0) (.slice lo ll lc) false false (fun _ => 0)) 37) := ⟨_, rfl⟩
      have hI : FInv N wc n a0 lo ll lc T 0 w1 := by
        rw [hw1, hN]
        exact ⟨heap_alloc_new _ _, (Below.refl _ _).alloc (Nat.le_refl _) _, by simp⟩
      simp only [lvCells] at hw1
      rw [← hw1, ← hN]
      rw [← hN] at hK hL
      have HN : Hid (N = wc.heap.size) := hN
      clear hw1 hN
      go_loopw [11] (fun i wr => ∃ k : Nat, k ≤ n ∧ i = .int .i64 k ∧ FInv N wc n a0 lo ll lc T k wr) (fun i _ => n - (intOf i).toNat)
      case atStart => exact ⟨0, Nat.zero_le _, rfl, hI⟩
      case round =>
        clear hI
        obtain ⟨k, hk, rfl, hI⟩ := hrel
        by_cases hlt : k < n
        · obtain ⟨ab, ao, rfl, hab, hat⟩ := hT.resolve_left (by omega)
          have hak := (hI.below.cell (p := ⟨ab, ao + k, none⟩) (by rw [HN.out]; exact hab)).trans (hat k (by omega)).1
          have hfk : wr.cell? ⟨N, 3 + k, none⟩ = some (.int .i64 0) := by
            simp only [World.cell?, hI.q]; simpa using lv_first n 0 _ _ _ _ _ (fun j => if j < k then T j else 0) k (by omega)
          have hzk : wr.frozen? ⟨N, 3 + k, none⟩ = false := by simp [World.frozen?, hI.q]
          have hI2 := hI.step (by omega)
          clear hat hI
          go_wp2
          go_region
          all_goals
            go_wp2
            go_roundw
            case rel => exact ⟨k + 1, by omega, by go_num, hI2⟩
            case measure => simp [intOf]; omega
        · obtain rfl : k = n := by omega
          have c23 : wr.cell? ⟨N, 23, none⟩ = some (.int .i64 0) := by simp [World.cell?, hI.q, lvCells]
          have f23 : wr.frozen? ⟨N, 23, none⟩ = false := by simp [World.frozen?, hI.q]
          go_wp2_with fail
          obtain ⟨A, hA⟩ : ∃ A : Nat → Int, A = fun j => if j < k then T j else 0 := ⟨_, rfl⟩
          obtain ⟨w2, hw2⟩ : ∃ w2, w2 = wr.setCell ⟨N, 23, none⟩ (.int .i64 pr) := ⟨_, rfl⟩
          rw [← hw2]
          have hq2 : w2.heap[N]? = some (lvb k pr (.slice a0 k k) (.slice none 0 0) (.slice lo ll lc) false false A) := by
            rw [hw2, Joins.block_setCell (i := 23) hI.q, hA]; simp [lvCells]
          have hb2 : Below N wc w2 := by rw [hw2]; exact hI.below.setCell (p := ⟨N, 23, none⟩) (Nat.le_refl _) _
          have hAT : Hid (∀ j, j < k → A j = T j) := fun j hj => by rw [hA]; exact if_pos hj
          clear hw2 hI c23 f23 hA hlt hk
          refine (spill_any N N k pr a0 lo ll lc false false A S ka kl kc w2 hn (Nat.le_refl _) ((hK.cut hn0).later hb2) hq2).mono ?_
          rintro e w3 ⟨rfl, low, g, p, hq3, hone, hk3⟩
          rw [ordK_eq] at hq3
          obtain ⟨la, hla⟩ : ∃ la : Value, la = if k = 0 then (.slice lo ll lc) else .slice (ka (k - 1)) (kl (k - 1)) (kc (k - 1)) := ⟨_, rfl⟩
          rw [← hla] at hq3
          have HLA : Hid (la = if k = 0 then (.slice lo ll lc) else .slice (ka (k - 1)) (kl (k - 1)) (kc (k - 1))) := hla
          have hG : GInv N wc k a0 low la (wantB S k k) A g p w3 := ⟨hq3, hone, Kept.below hb2 hk3 (by have := lt_of_block hq2; omega) (fun i hi => by omega)⟩
          clear hq3 hone hk3 hq2 hb2 hla
          have c19 : w3.cell? ⟨N, 19, none⟩ = some (.bool true) := by simp [World.cell?, hG.q, lvCells]
          have c23 : w3.cell? ⟨N, 23, none⟩ = some (.int .i64 k) := by simp [World.cell?, hG.q, lvCells]
          have c1 : w3.cell? ⟨N, 1, none⟩ = some (.int .i64 k) := by simp [World.cell?, hG.q, lvCells]
          go_wp2
          clear c19 c23 c1
          go_loopw [12] (fun i wr => ∃ j : Nat, j ≤ k ∧ i = .int .i64 j ∧ GInv N wc k a0 low la (wantB S k k) A g p wr) (fun i _ => k - (intOf i).toNat)
          case atStart => exact ⟨0, Nat.zero_le _, rfl, hG⟩
          case round =>
            clear hG
            obtain ⟨j, hj, rfl, hG⟩ := hrel
            by_cases hlt : j < k
            · obtain ⟨ab, ao, rfl, hab, hat⟩ := hT.resolve_left (by omega)
              have haj := (hG.below.cell (p := ⟨ab, ao + j, none⟩) (by rw [HN.out]; exact hab)).trans (hat j (by omega)).1
              have hlo := (hat j (by omega)).2
              obtain ⟨cp, hlow, hM⟩ := hG.one (by omega)
              have c20 : wr.cell? ⟨N, 20, none⟩ = some (.slice (some ⟨g, 0, none⟩) 1 cp) := by simp [World.cell?, hG.q, lvCells, hlow]
              have cg := hM.cg
              have cpj : wr.cell? ⟨p, j, none⟩ = some (.int .u32 (IntKind.u32.wrap (IntKind.u32.wrap (T j) * 4))) := by
                rw [hM.cells j (by omega), if_pos hlt, lowv_eq, hAT.out j hlt]
              have e1 : j / 1024 = 0 := by omega
              have e2 : j % 1024 = j := by omega
              clear hat hM hlow
              go_wp2
              go_region
              all_goals
                clear c20 cg cpj e1 e2 haj hlo
                go_wp2
                go_roundw
                case rel => exact ⟨j + 1, by omega, by go_num, hG.drew⟩
                case measure => simp [intOf]; omega
            · clear hT hAT
              go_wp2
              clear hlt hj
              go_loopw [13, 14] (fun wv i wr => ∃ a : Nat, a ≤ k ∧ wv = .bool (wantB S k a) ∧ i = .int .i64 a ∧ GInv N wc k a0 low la (wantB S k k) A g p wr) (fun _ i _ => k - (intOf i).toNat)
              case atStart => exact ⟨0, Nat.zero_le _, rfl, rfl, hG⟩
              case round =>
                clear hG
                obtain ⟨a, ha, rfl, rfl, hG⟩ := hrel
                by_cases hlt : a < k
                · go_wp2
                  go_loopw [13, 15] (fun wv i wr => ∃ m : Nat, a + 1 + m ≤ k ∧ wv = .bool (pairB S k a m) ∧ i = .int .i64 ((a + 1 + m : Nat) : Int) ∧ GInv N wc k a0 low la (wantB S k k) A g p wr) (fun _ i _ => k - (intOf i).toNat)
                  case atStart => exact ⟨0, by omega, by rw [pairB_zero], by go_num, hG⟩
                  case round =>
                    clear hG
                    obtain ⟨m, hm', rfl, rfl, hG⟩ := hrel
                    by_cases hlm : a + 1 + m < k
                    · obtain ⟨kb, ko, hak, hkb, hkc⟩ := hK.row.resolve_left (by omega)
                      subst hak
                      have hka := (hG.below.cell (p := ⟨kb, ko + a, none⟩) hkb).trans (hkc a (by omega))
                      have hkm := (hG.below.cell (p := ⟨kb, ko + (a + 1 + m), none⟩) hkb).trans (hkc (a + 1 + m) (by omega))
                      have cva := hK.conv a (by omega) wr.drew hG.below.drew
                      have cvm := hK.conv (a + 1 + m) (by omega) wr.drew hG.below.drew
                      by_cases hb : ltB (S a) (S (a + 1 + m)) = true
                      · have hb' : Op.bytesLess (S a).toList (S (a + 1 + m)).toList = true := hb
                        have HB : Hid (pairB S k a (m + 1) = pairB S k a m) := pairB_yes S k a m hb
                        clear hb hkc
                        go_wp2
                        go_region
                        all_goals
                          clear cva cvm hka hkm hb'
                          go_wp2
                          go_roundw
                          case rel => exact ⟨m + 1, by omega, by rw [HB.out], by go_num, hG.drew⟩
                          case measure => simp [intOf]; omega
                      · have hb0 : ltB (S a) (S (a + 1 + m)) = false := by simpa using hb
                        have hb' : Op.bytesLess (S a).toList (S (a + 1 + m)).toList = false := hb0
                        have HB : Hid (pairB S k a (m + 1) = false) := pairB_no S k a m hb0
                        clear hb hb0 hkc
                        go_wp2
                        go_region
                        all_goals
                          clear cva cvm hka hkm hb'
                          go_wp2
                          go_roundw
                          case rel => exact ⟨m + 1, by omega, by rw [HB.out], by go_num, hG.drew⟩
                          case measure => simp [intOf]; omega
                    · have HB : Hid (pairB S k a m = wantB S k (a + 1)) := by
                        show _ = _
                        rw [← pairB_all, show k - 1 - a = m by omega]
                      go_wp2
                      go_roundw
                      case rel => exact ⟨a + 1, by omega, by rw [HB.out], by go_num, hG⟩
                      case measure => simp [intOf]; omega
                · obtain rfl : a = k := by omega
                  have c24 : wr.cell? ⟨N, 24, none⟩ = some (.bool (wantB S a a)) := by simp [World.cell?, hG.q, lvCells]
                  have c25 : wr.cell? ⟨N, 25, none⟩ = some la := by simp [World.cell?, hG.q, lvCells]
                  have hbel := hG.below
                  by_cases ha0 : a = 0
                  · rw [HLA.out, if_pos ha0] at c25
                    have cvl := hL wr.drew hbel.drew
                    have hfin : Below wc.heap.size wc wr.drew := by rw [← HN.out]; exact hbel.drew
                    clear hK hL hG hbel
                    go_wp2
                    go_region
                    all_goals
                      go_wp2
                      go_ret
                      exact ⟨rfl, hfin⟩
                  · obtain ⟨kb, ko, hak, hkb, hkc⟩ := hK.row.resolve_left (by omega)
                    subst hak
                    rw [HLA.out, if_neg ha0] at c25
                    have hkl := (hbel.cell (p := ⟨kb, ko + (a - 1), none⟩) hkb).trans (hkc (a - 1) (by omega))
                    have cvl := hK.conv (a - 1) (by omega) wr.drew hbel.drew
                    have hfin : Below wc.heap.size wc wr.drew := by rw [← HN.out]; exact hbel.drew
                    have hapos : 0 < a := by omega
                    clear hK hL hG hbel hkc
                    go_wp2
                    go_region
                    all_goals
                      go_wp2
                      go_ret
                      exact ⟨rfl, hfin⟩
end Go.Proofs.Ybulkqma

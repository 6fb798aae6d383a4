/-
  '(*level).spill'.
-/
import Derived.Test.YbulkqmaMark
import Derived.Test.YbulkqmaPlain
import Derived.Deep.RegionWith
import Derived.BigQuiet
namespace Go.Proofs.Ybulkqma
open Go.RowKit

theorem Kept.trans' {S S' : Nat → Prop} {w w1 w2 : World} (h : Kept S w w1) (k : Kept S' w1 w2) (hS : ∀ i, i < w.heap.size → S' i → S i) : Kept S w w2 :=
  ⟨k.os.trans h.os, k.tape.trans h.tape, k.output.trans h.output, Nat.le_trans h.size k.size, fun i hi hs => (k.block i (Nat.lt_of_lt_of_le hi h.size) (fun x => hs (hS i hi x))).trans (h.block i hi hs)⟩

/-- The keys of the level: a row that came in; each converts to its text as long as what lay below B lies there still. -/
structure Keys (B : Nat) (w : World) (ak : Option Addr) (n : Nat) (ka : Nat → Option Addr) (kl kc : Nat → Nat) (S : Nat → ByteArray) : Prop where
  row : n = 0 ∨ ∃ kb ko, ak = some ⟨kb, ko, none⟩ ∧ kb < B ∧ ∀ i, i < n → w.cell? ⟨kb, ko + i, none⟩ = some (.slice (ka i) (kl i) (kc i))
  conv : ∀ i, i < n → ∀ w', Below B w w' → (convert 22 9 (.slice (ka i) (kl i) (kc i))).run Yba.prog w' = .ok (.string (S i)) w'

theorem len31 : Yba.prog.arrayLen 31 = 16 := by kernel_rfl
theorem elem31 : Yba.prog.elem 31 = 3 := by kernel_rfl
theorem arr31 : Yba.prog.underlying 31 = some (.array (Yba.prog.arrayLen 31) (Yba.prog.elem 31)) := by kernel_rfl
theorem slice31 (w : World) (b n : Nat) (hn : n ≤ 16) : (Instr.sliceAt 31 (.pointer (some ⟨b, 3, none⟩)) none (some (.int .i64 n)) none).run Yba.prog w = .ok (.slice (some ⟨b, 3, none⟩) n 16) w := by
  rw [run_sliceAt_array_h (P := Yba.prog) w 31 ⟨b, 3, none⟩ arr31 .i64 (n : Int) (by omega) (by rw [len31]; omega), len31, elem31]
  simp [Yba.sizeOf3, slicedAt, Addr.add_zero']

theorem kept3 (w : World) (b : Nat) (v1 v2 v3 : Value) : Kept (fun i => i = b) w (((w.setCell ⟨b, 19, none⟩ v1).setCell ⟨b, 23, none⟩ v2).setCell ⟨b, 24, none⟩ v3).drew := by
  have h1 : Kept (fun i => i = b) w (w.setCell ⟨b, 19, none⟩ v1) := (Kept.refl (fun i => i = b) w).setCell (p := ⟨b, 19, none⟩) rfl v1
  have h2 := h1.setCell (p := ⟨b, 23, none⟩) rfl v2
  have h3 := h2.setCell (p := ⟨b, 24, none⟩) rfl v3
  exact h3.drew

/-- Behind k rounds. -/
structure SInv (B b : Nat) (w : World) (n : Nat) (kv la : Value) (A : Nat → Int) (S : Nat → ByteArray) (k : Nat) (wr : World) (low : Value) (g p : Nat) : Prop where
  q : wr.heap[b]? = some (lvb n k kv low la true (ordK S k) A)
  nil : k = 0 → low = .slice none 0 0
  one : 0 < k → ∃ cp, low = .slice (some ⟨g, 0, none⟩) 1 cp ∧ Marks wr g p k A ∧ w.heap.size ≤ g ∧ w.heap.size ≤ p ∧ g ≠ p
  kept : Kept (fun i => i = b) w wr

theorem SInv.drew {B b : Nat} {w : World} {n : Nat} {kv la : Value} {A : Nat → Int} {S : Nat → ByteArray} {k : Nat} {wr : World} {low : Value} {g p : Nat} (h : SInv B b w n kv la A S k wr low g p) : SInv B b w n kv la A S k wr.drew low g p :=
  ⟨h.q, h.nil, fun hk => let ⟨cp, h1, h2, h3⟩ := h.one hk; ⟨cp, h1, h2.kept rfl rfl, h3⟩, h.kept.drew⟩

theorem SInv.first {B b : Nat} {w : World} {n : Nat} {kv la : Value} {A : Nat → Int} {S : Nat → ByteArray} {wr w2 : World} {low : Value} {g p g2 p2 cp2 : Nat} (h : SInv B b w n kv la A S 0 wr low g p)
    (hg2 : wr.drew.heap.size ≤ g2) (hp2 : wr.drew.heap.size ≤ p2) (hgp2 : g2 ≠ p2) (hq2 : w2.heap[b]? = some (lvb n (0 + 1 : Nat) kv (.slice (some ⟨g2, 0, none⟩) 1 cp2) la true (ordK S 0) A)) (hM2 : Marks w2 g2 p2 (0 + 1) A) (hk2 : Kept (fun i => i = b) wr.drew w2) :
    SInv B b w n kv la A S 1 w2 (.slice (some ⟨g2, 0, none⟩) 1 cp2) g2 p2 := by
  have hs := h.kept.size
  have hg2' : wr.heap.size ≤ g2 := hg2
  have hp2' : wr.heap.size ≤ p2 := hp2
  refine ⟨?_, fun h => absurd h (by omega), fun _ => ⟨cp2, rfl, hM2, by omega, by omega, hgp2⟩, h.kept.drew.trans' hk2 (fun _ _ h => h)⟩
  have e : ordK S 1 = ordK S 0 := by simp [ordK]
  rw [e]
  exact hq2

def SpillPost (b n : Nat) (kv la : Value) (A : Nat → Int) (S : Nat → ByteArray) (w : World) (ka : Nat → Option Addr) (kl kc : Nat → Nat) (e : Ending) (w' : World) : Prop :=
  e = .returned (.tuple #[]) ∧ ∃ low g p, w'.heap[b]? = some (lvb n n kv low (if n = 0 then la else .slice (ka (n - 1)) (kl (n - 1)) (kc (n - 1))) true (ordK S n) A) ∧
    (0 < n → ∃ cp, low = .slice (some ⟨g, 0, none⟩) 1 cp ∧ Marks w' g p n A) ∧ Kept (fun i => i = b) w w'

set_option maxRecDepth 100000 in
set_option maxHeartbeats 2000000 in
theorem spill_any (B b n : Nat) (kn : Int) (ak : Option Addr) (lo : Option Addr) (ll lc : Nat) (sp od : Bool) (A : Nat → Int) (S : Nat → ByteArray) (ka : Nat → Option Addr) (kl kc : Nat → Nat) (w : World) (hn : n ≤ 16) (hB : B ≤ b)
    (hK : Keys B w ak n ka kl kc S) (hq : w.heap[b]? = some (lvb n kn (.slice ak n n) (.slice none 0 0) (.slice lo ll lc) sp od A)) :
    Calls Yba.prog 7 #[.pointer (some ⟨b, 0, none⟩)] w (SpillPost b n (.slice ak n n) (.slice lo ll lc) A S w ka kl kc) := by
  have hbl : b < w.heap.size := lt_of_block hq
  have c19 : w.cell? ⟨b, 19, none⟩ = some (.bool sp) := by simp [World.cell?, hq, lvCells]
  have c23 : w.cell? ⟨b, 23, none⟩ = some (.int .i64 kn) := by simp [World.cell?, hq, lvCells]
  have c24 : w.cell? ⟨b, 24, none⟩ = some (.bool od) := by simp [World.cell?, hq, lvCells]
  have c1 : w.cell? ⟨b, 1, none⟩ = some (.int .i64 n) := by simp [World.cell?, hq, lvCells]
  have f19 : w.frozen? ⟨b, 19, none⟩ = false := by simp [World.frozen?, hq]
  have f23 : w.frozen? ⟨b, 23, none⟩ = false := by simp [World.frozen?, hq]
  have f24 : w.frozen? ⟨b, 24, none⟩ = false := by simp [World.frozen?, hq]
  have hsl := fun (wx : World) => slice31 wx b n hn
  go_enter Yba.func7, Yba.ntmps7
  go_wp2
  go_region
  go_wp2
  obtain ⟨w0, hw0⟩ : ∃ w0, w0 = (((w.setCell ⟨b, 19, none⟩ (.bool true)).setCell ⟨b, 23, none⟩ (.int .i64 0)).setCell ⟨b, 24, none⟩ (.bool true)).drew := ⟨_, rfl⟩
  rw [← hw0]
  have hI : SInv B b w n (.slice ak n n) (.slice lo ll lc) A S 0 w0 (.slice none 0 0) 0 0 := by
    refine ⟨?_, fun _ => rfl, fun h => absurd h (by omega), ?_⟩
    · rw [hw0]
      show (((w.setCell ⟨b, 19, none⟩ (.bool true)).setCell ⟨b, 23, none⟩ (.int .i64 0)).setCell ⟨b, 24, none⟩ (.bool true)).heap[b]? = _
      rw [Joins.block_setCell (i := 24) (Joins.block_setCell (i := 23) (Joins.block_setCell (i := 19) hq _) _)]
      simp [lvCells, ordK]
    · rw [hw0]
      exact kept3 w b _ _ _
  clear hw0 hq c19 c23 c24 c1 f19 f23 f24 hsl
  go_loopw [23] (fun i wr => ∃ (k : Nat) (low : Value) (g p : Nat), k ≤ n ∧ i = .int .i64 k ∧ SInv B b w n (.slice ak n n) (.slice lo ll lc) A S k wr low g p) (fun i _ => n - (intOf i).toNat)
  case atStart => exact ⟨0, _, 0, 0, Nat.zero_le _, rfl, hI⟩
  case round =>
    clear hI
    obtain ⟨k, low, g, p, hk, rfl, hI⟩ := hrel
    by_cases hlt : k < n
    · have hcA : wr.cell? ⟨b, 3 + k, none⟩ = some (.int .i64 (A k)) := by
        simp only [World.cell?, hI.q]; simpa using lv_first n k _ _ _ _ _ A k (by omega)
      obtain ⟨kb, ko, rfl, hkb, hkc⟩ := hK.row.resolve_left (by omega)
      by_cases hk0 : k = 0
      · subst hk0
        obtain rfl := hI.nil rfl
        go_wp2
        go_region_with (first | (go_at_call 11; refine (mark_any _ _).mono ?_; rintro e w' ⟨rfl, rfl⟩) | (go_at_call 10; refine (add_first b n (.slice (some ⟨kb, ko, none⟩) n n) (.slice lo ll lc) true (ordK S 0) A A wr.drew hI.q).mono ?_; rintro e w2 ⟨g2, p2, hg2, hp2, hgp2, rfl, cp2, hq2, hM2, hk2⟩))
        all_goals
          have hI2 := hI.first hg2 hp2 hgp2 hq2 hM2 hk2
          clear hq2 hM2 hk2 hg2 hp2 hgp2 hI hcA hkc
          go_wp2
          go_region
          all_goals
            go_wp2
            go_roundw
            case rel => exact ⟨1, _, g2, p2, by omega, by go_num, hI2.drew⟩
            case measure => simp [intOf]; omega
      · obtain ⟨cp, rfl, hM, hgw, hpw, hgp⟩ := hI.one (by omega)
        have hgb : g ≠ b := by omega
        have hpb : p ≠ b := by omega
        go_wp2
        go_region_with (first | (go_at_call 11; refine (mark_any _ _).mono ?_; rintro e w' ⟨rfl, rfl⟩) | (go_at_call 10; refine (add_next b g p k cp n (.slice (some ⟨kb, ko, none⟩) n n) (.slice lo ll lc) true (ordK S k) A A wr.drew (by omega) (by omega) hI.q (hM.kept rfl rfl) hgb hpb hgp).mono ?_; rintro e w2 ⟨rfl, cp2, hq2, hM2, hk2⟩))
        all_goals
          have hk3 : Kept (fun i => i = b) w w2 := hI.kept.drew.trans' hk2 (fun i hi h => h.resolve_right (by omega))
          have hbel : Below B w w2 := Kept.below (Below.refl B w) hk3 (by omega) (by omega)
          have hkk := (hbel.cell (p := ⟨kb, ko + k, none⟩) hkb).trans (hkc k hlt)
          have hkj := (hbel.cell (p := ⟨kb, ko + (k - 1), none⟩) hkb).trans (hkc (k - 1) (by omega))
          have cv1 := hK.conv k hlt w2.drew hbel.drew
          have cv2 := hK.conv (k - 1) (by omega) w2.drew hbel.drew
          have d2 : w2.cell? ⟨b, 2, none⟩ = some (.slice (some ⟨kb, ko, none⟩) n n) := by simp [World.cell?, hq2, lvCells]
          have d24 : w2.cell? ⟨b, 24, none⟩ = some (.bool (ordK S k)) := by simp [World.cell?, hq2, lvCells]
          have e24 : w2.frozen? ⟨b, 24, none⟩ = false := by simp [World.frozen?, hq2]
          have hkpos : 0 < k := by omega
          by_cases hle : leB (S k) (S (k - 1)) = true
          · have hle' : (Op.bytesLess (S k).toList (S (k - 1)).toList || (S k).toList == (S (k - 1)).toList) = true := hle
            have hI3 : SInv B b w n (.slice (some ⟨kb, ko, none⟩) n n) (.slice lo ll lc) A S (k + 1) (w2.setCell ⟨b, 24, none⟩ (.bool false)) (.slice (some ⟨g, 0, none⟩) 1 cp2) g p := by
              refine ⟨?_, fun h => absurd h (by omega), fun _ => ⟨cp2, rfl, hM2.kept (Below.heap_setCell _ _ _ _ hgb) (Below.heap_setCell _ _ _ _ hpb), hgw, hpw, hgp⟩, hk3.setCell (p := ⟨b, 24, none⟩) rfl _⟩
              rw [Joins.block_setCell (i := 24) hq2, show ordK S (k + 1) = false by simp [ordK, hle, hkpos]]
              simp [lvCells]
            clear hI hcA hM hq2 hM2 hk2 hk3 hbel hkc hle
            go_wp2
            go_region
            all_goals
              clear cv1 cv2 hkk hkj d2
              go_wp2
              go_roundw
              case rel => exact ⟨k + 1, _, g, p, by omega, by go_num, hI3.drew⟩
              case measure => simp [intOf]; omega
          · have hle' : (Op.bytesLess (S k).toList (S (k - 1)).toList || (S k).toList == (S (k - 1)).toList) = false := by simpa [leB] using hle
            have hI3 : SInv B b w n (.slice (some ⟨kb, ko, none⟩) n n) (.slice lo ll lc) A S (k + 1) w2 (.slice (some ⟨g, 0, none⟩) 1 cp2) g p := by
              refine ⟨?_, fun h => absurd h (by omega), fun _ => ⟨cp2, rfl, hM2, hgw, hpw, hgp⟩, hk3⟩
              rw [show ordK S (k + 1) = ordK S k by simp [ordK, hle]]
              exact hq2
            clear hI hcA hM hq2 hM2 hk2 hk3 hbel hkc hle
            go_wp2
            go_region
            all_goals
              clear cv1 cv2 hkk hkj d2
              go_wp2
              go_roundw
              case rel => exact ⟨k + 1, _, g, p, by omega, by go_num, hI3.drew⟩
              case measure => simp [intOf]; omega
    · obtain rfl : k = n := by omega
      have d1 : wr.cell? ⟨b, 1, none⟩ = some (.int .i64 k) := by simp [World.cell?, hI.q, lvCells]
      by_cases hk0 : k = 0
      · subst hk0
        have fin : SpillPost b 0 (.slice ak 0 0) (.slice lo ll lc) A S w ka kl kc (.returned (.tuple #[])) wr := ⟨rfl, low, g, p, hI.q, fun h => absurd h (by omega), hI.kept⟩
        clear hI
        go_wp2
        go_end0
        exact fin
      · obtain ⟨kb, ko, rfl, hkb, hkc⟩ := hK.row.resolve_left hk0
        obtain ⟨cp, rfl, hM, hgw, hpw, hgp⟩ := hI.one (by omega)
        have hbel : Below B w wr := Kept.below (Below.refl B w) hI.kept (by omega) (by omega)
        have hkj := (hbel.cell (p := ⟨kb, ko + (k - 1), none⟩) hkb).trans (hkc (k - 1) (by omega))
        have d2 : wr.cell? ⟨b, 2, none⟩ = some (.slice (some ⟨kb, ko, none⟩) k k) := by simp [World.cell?, hI.q, lvCells]
        have d25 : wr.cell? ⟨b, 25, none⟩ = some (.slice lo ll lc) := by simp [World.cell?, hI.q, lvCells]
        have e25 : wr.frozen? ⟨b, 25, none⟩ = false := by simp [World.frozen?, hI.q]
        have hkpos : 0 < k := by omega
        have hgb : g ≠ b := by omega
        have hpb : p ≠ b := by omega
        have fin : SpillPost b k (.slice (some ⟨kb, ko, none⟩) k k) (.slice lo ll lc) A S w ka kl kc (.returned (.tuple #[])) (wr.setCell ⟨b, 25, none⟩ (.slice (ka (k - 1)) (kl (k - 1)) (kc (k - 1)))).drew := by
          refine ⟨rfl, _, g, p, ?_, fun _ => ⟨cp, rfl, hM.kept (Below.heap_setCell _ _ _ _ hgb) (Below.heap_setCell _ _ _ _ hpb)⟩, (hI.kept.setCell (p := ⟨b, 25, none⟩) rfl _).drew⟩
          show (wr.setCell ⟨b, 25, none⟩ _).heap[b]? = _
          rw [Joins.block_setCell (i := 25) hI.q, if_neg hk0]
          simp [lvCells]
        clear hI hM hbel hkc
        go_wp2
        go_region
        all_goals
          go_wp2
          go_end0
          exact fin
end Go.Proofs.Ybulkqma

/-
  The reader's small methods: skipSpaces, skipSpace, closes, closesAtOnce; and the law's own isspace.
-/
import Derived.Test.YbulkqmaMark
import Derived.Deep.RegionWith
import Derived.Deep.LoopGhost
import Derived.BigQuiet
namespace Go.Proofs.Ybulkqma
open Go.RowKit

/-- White space, as JSON has it. -/
def spB (c : Int) : Bool := c == 32 || c == 9 || c == 10 || c == 13

/-- From p on, q is the first place that is no white space, or the end. -/
structure Stop (f : Nat → Int) (L p q : Nat) : Prop where
  lo : p ≤ q
  hi : q ≤ L
  sp : ∀ i, p ≤ i → i < q → spB (f i) = true
  no : q < L → spB (f q) = false
theorem Stop.unique {f : Nat → Int} {L p q q' : Nat} (h : Stop f L p q) (h' : Stop f L p q') : q = q' := by
  rcases Nat.lt_trichotomy q q' with e | e | e
  · have := h.no (by have := h'.hi; omega)
    rw [h'.sp q h.lo e] at this
    cases this
  · exact e
  · have := h'.no (by have := h.hi; omega)
    rw [h.sp q' h'.lo e] at this
    cases this

theorem spB_cases {c : Int} (h : spB c = true) : c = 32 ∨ c = 9 ∨ c = 10 ∨ c = 13 := by
  simp only [spB, Bool.or_eq_true, beq_iff_eq] at h
  omega

set_option maxHeartbeats 400000 in
theorem space_any (c : Int) (w : World) : Calls Yba.prog 8 #[.int .u8 c] w fun e w' => e = .returned (.bool (spB c)) ∧ w' = w := by
  by_cases h1 : c = 32
  · subst h1
    go_enter Yba.func8, Yba.ntmps8
    go_wp2
    go_ret
    exact ⟨rfl, rfl⟩
  · by_cases h2 : c = 9
    · subst h2
      go_enter Yba.func8, Yba.ntmps8
      go_wp2
      go_ret
      exact ⟨rfl, rfl⟩
    · by_cases h3 : c = 10
      · subst h3
        go_enter Yba.func8, Yba.ntmps8
        go_wp2
        go_ret
        exact ⟨rfl, rfl⟩
      · have e1 : (c == 32) = false := by simpa using h1
        have e2 : (c == 9) = false := by simpa using h2
        have e3 : (c == 10) = false := by simpa using h3
        have e4 : spB c = (c == 13) := by simp [spB, e1, e2, e3]
        rw [e4]
        clear e4 h1 h2 h3
        go_enter Yba.func8, Yba.ntmps8
        go_wp2
        go_ret
        exact ⟨rfl, rfl⟩

/-- The eleven cells of a 'reader'. -/
def rdCells (bv lv : Value) (pos d : Int) : Array Value :=
  #[bv, .int .i64 pos, lv, .int .i64 d, .bool false, .slice none 0 0, .bool false, .pointer none, .nilIface, .pointer none, .pointer none]
abbrev rdb (bv lv : Value) (pos d : Int) : Obj := .cells (rdCells bv lv pos d) 50 (0, 0)

/-- The body: L bytes from the head of a block. -/
def Body (w : World) (bb L : Nat) (f : Nat → Int) : Prop := ∀ i, i < L → w.cell? ⟨bb, i, none⟩ = some (.int .u8 (f i)) ∧ 0 ≤ f i ∧ f i ≤ 255

def SkipPost (b : Nat) (bv lv : Value) (d : Int) (f : Nat → Int) (L p : Nat) (w : World) (e : Ending) (w' : World) : Prop :=
  e = .returned (.tuple #[]) ∧ ∃ q, Stop f L p q ∧ w'.heap[b]? = some (rdb bv lv q d) ∧ Kept (fun i => i = b) w w'

set_option maxRecDepth 100000 in
set_option maxHeartbeats 1000000 in
theorem skips_any (b bb L cp p : Nat) (lv : Value) (d : Int) (f : Nat → Int) (w : World) (hL : L ≤ 1024) (hp : p ≤ L) (hbb : bb ≠ b) (hbl : bb < w.heap.size) (hB : Body w bb L f)
    (hq : w.heap[b]? = some (rdb (.slice (some ⟨bb, 0, none⟩) L cp) lv p d)) :
    Calls Yba.prog 15 #[.pointer (some ⟨b, 0, none⟩)] w (SkipPost b (.slice (some ⟨bb, 0, none⟩) L cp) lv d f L p w) := by
  go_enter Yba.func15, Yba.ntmps15
  go_wp2
  go_loopg [] (L - p) (fun k wr => ∃ r : Nat, p ≤ r ∧ r ≤ L ∧ k = L - r ∧ (∀ i, p ≤ i → i < r → spB (f i) = true) ∧ wr.heap[b]? = some (rdb (.slice (some ⟨bb, 0, none⟩) L cp) lv r d) ∧ Kept (fun i => i = b) w wr)
  case atStart => exact ⟨p, Nat.le_refl _, hp, rfl, fun i h1 h2 => by omega, hq, Kept.refl _ _⟩
  case round =>
    clear hq
    obtain ⟨r, hr1, hr2, rfl, hsp, hq, hk⟩ := hrel
    have c0 : wr.cell? ⟨b, 0, none⟩ = some (.slice (some ⟨bb, 0, none⟩) L cp) := by simp [World.cell?, hq, rdCells]
    have c1 : wr.cell? ⟨b, 1, none⟩ = some (.int .i64 r) := by simp [World.cell?, hq, rdCells]
    have f1 : wr.frozen? ⟨b, 1, none⟩ = false := by simp [World.frozen?, hq]
    by_cases hlt : r < L
    · have cb := (World.cell?_of_block (a := ⟨bb, r, none⟩) (hk.block bb hbl (by omega))).trans (hB r hlt).1
      obtain ⟨x, hx⟩ : ∃ x, x = f r := ⟨_, rfl⟩
      rw [← hx] at cb
      have HX : Hid (x = f r) := hx
      clear hx
      by_cases hs : spB x = true
      · have hs' : spB (f r) = true := by rw [← HX.out]; exact hs
        have hI : ∀ w2, w2 = (wr.setCell ⟨b, 1, none⟩ (.int .i64 ((r : Int) + 1))).drew.drew → ∃ r' : Nat, p ≤ r' ∧ r' ≤ L ∧ L - (r + 1) = L - r' ∧ (∀ i, p ≤ i → i < r' → spB (f i) = true) ∧ w2.heap[b]? = some (rdb (.slice (some ⟨bb, 0, none⟩) L cp) lv r' d) ∧ Kept (fun i => i = b) w w2 := by
          intro w2 hw2
          refine ⟨r + 1, by omega, by omega, rfl, fun i h1 h2 => ?_, ?_, ?_⟩
          · by_cases e : i = r
            · subst e; exact hs'
            · exact hsp i h1 (by omega)
          · rw [hw2]
            show (wr.setCell ⟨b, 1, none⟩ (.int .i64 ((r : Int) + 1))).heap[b]? = _
            rw [Joins.block_setCell (i := 1) hq]; simp [rdCells]
          · rw [hw2]; exact (hk.setCell (p := ⟨b, 1, none⟩) rfl _).drew.drew
        have HI := hI _ rfl
        clear hI hs' hsp HX hq hk hB
        rcases spB_cases hs with rfl | rfl | rfl | rfl
        all_goals
          clear hs
          go_wp2
          go_region
          all_goals
            go_wp2
            go_region
            all_goals
              go_wp2
              go_roundg (L - (r + 1))
              case measure => omega
              case rel => exact HI
      · have hs0 : spB x = false := by simpa using hs
        have e1 : (x == 32) = false ∧ (x == 9) = false ∧ (x == 10) = false ∧ (x == 13) = false := by
          simpa [spB, and_assoc] using hs0
        obtain ⟨e1, e2, e3, e4⟩ := e1
        have fin : ∀ wx, wx = wr.drew.drew → SkipPost b (.slice (some ⟨bb, 0, none⟩) L cp) lv d f L p w (.returned (.tuple #[])) wx := by
          intro wx hwx
          rw [hwx]
          exact ⟨rfl, r, ⟨hr1, hr2, hsp, fun _ => by rw [← HX.out]; exact hs0⟩, hq, hk.drew.drew⟩
        have FIN := fin _ rfl
        clear fin hs hs0 hsp HX hq hk hB
        go_wp2
        go_region
        all_goals
          go_wp2
          go_region
          all_goals
            go_wp2
            refine bodyPost_ret (results_none rfl _ _ _) rfl ?_
            exact FIN
    · have FIN : SkipPost b (.slice (some ⟨bb, 0, none⟩) L cp) lv d f L p w (.returned (.tuple #[])) wr.drew := ⟨rfl, r, ⟨hr1, hr2, hsp, fun h => absurd h hlt⟩, hq, hk.drew⟩
      clear hsp hq hk hB
      go_wp2
      go_region
      all_goals
        go_wp2
        first | go_end0 | refine bodyPost_ret (results_none rfl _ _ _) rfl ?_
        exact FIN
end Go.Proofs.Ybulkqma

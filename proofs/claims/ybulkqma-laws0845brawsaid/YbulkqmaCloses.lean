/-
  skipSpace, closes, closesAtOnce.
-/
import Derived.Test.YbulkqmaRead
namespace Go.Proofs.Ybulkqma
open Go.RowKit

theorem spB_big {c : Int} (h : 32 < c) : spB c = false := by
  simp only [spB, Bool.or_eq_false_iff, beq_eq_false_iff_ne]
  omega

set_option maxRecDepth 100000 in
set_option maxHeartbeats 1000000 in
theorem skip_any (b bb L cp p : Nat) (lv : Value) (d : Int) (f : Nat → Int) (w : World) (hL : L ≤ 1024) (hp : p ≤ L) (hbb : bb ≠ b) (hbl : bb < w.heap.size) (hB : Body w bb L f)
    (hq : w.heap[b]? = some (rdb (.slice (some ⟨bb, 0, none⟩) L cp) lv p d)) :
    Calls Yba.prog 12 #[.pointer (some ⟨b, 0, none⟩)] w (SkipPost b (.slice (some ⟨bb, 0, none⟩) L cp) lv d f L p w) := by
  have c0 : w.cell? ⟨b, 0, none⟩ = some (.slice (some ⟨bb, 0, none⟩) L cp) := by simp [World.cell?, hq, rdCells]
  have c1 : w.cell? ⟨b, 1, none⟩ = some (.int .i64 p) := by simp [World.cell?, hq, rdCells]
  have sk := skips_any b bb L cp p lv d f w.drew hL hp hbb hbl hB hq
  have SK : Hid (Calls Yba.prog 15 #[.pointer (some ⟨b, 0, none⟩)] w.drew (SkipPost b (.slice (some ⟨bb, 0, none⟩) L cp) lv d f L p w)) :=
    sk.mono fun e w' ⟨h1, q, h2, h3, h4⟩ => ⟨h1, q, h2, h3, ((Kept.refl _ _).drew).trans h4⟩
  clear sk
  by_cases hlt : p < L
  · have cb := (hB p hlt).1
    have hf := (hB p hlt).2
    obtain ⟨x, hx⟩ : ∃ x, x = f p := ⟨_, rfl⟩
    rw [← hx] at cb hf
    have HX : Hid (x = f p) := hx
    clear hx
    by_cases hgt : 32 < x
    · have FIN : SkipPost b (.slice (some ⟨bb, 0, none⟩) L cp) lv d f L p w (.returned (.tuple #[])) w.drew :=
        ⟨rfl, p, ⟨Nat.le_refl _, hp, fun i h1 h2 => by omega, fun _ => by rw [← HX.out]; exact spB_big hgt⟩, hq, (Kept.refl _ _).drew⟩
      clear hB SK HX hq
      go_enter Yba.func12, Yba.ntmps12
      go_wp2
      go_region
      all_goals
        go_wp2
        first | go_end0 | refine bodyPost_ret (results_none rfl _ _ _) rfl ?_
        exact FIN
    · clear hB HX hq
      go_enter Yba.func12, Yba.ntmps12
      go_wp2
      go_region
      all_goals
        go_wp2_with fail
        refine SK.out.mono ?_
        rintro e w' ⟨rfl, h⟩
        go_wp2
        go_end0
        exact ⟨rfl, h⟩
  · clear hB hq
    go_enter Yba.func12, Yba.ntmps12
    go_wp2
    go_region
    all_goals
      go_wp2_with fail
      refine SK.out.mono ?_
      rintro e w' ⟨rfl, h⟩
      go_wp2
      go_end0
      exact ⟨rfl, h⟩

/-- The byte that closes. -/
def clo (o : Bool) : Int := if o then 125 else 93

set_option maxRecDepth 100000 in
set_option maxHeartbeats 1000000 in
theorem closes_any (b g n cp k : Nat) (bv : Value) (pos : Int) (o : Bool) (w : World) (hk : k < n) (hn : n ≤ 1024)
    (hq : w.heap[b]? = some (rdb bv (.slice (some ⟨g, 0, none⟩) n cp) pos ((k + 1 : Nat) : Int))) (ho : w.cell? ⟨g, k * 30, none⟩ = some (.bool o)) :
    Calls Yba.prog 13 #[.pointer (some ⟨b, 0, none⟩)] w fun e w' => e = .returned (.int .u8 (clo o)) ∧ w' = w.drew := by
  have c2 : w.cell? ⟨b, 2, none⟩ = some (.slice (some ⟨g, 0, none⟩) n cp) := by simp [World.cell?, hq, rdCells]
  have c3 : w.cell? ⟨b, 3, none⟩ = some (.int .i64 ((k : Int) + 1)) := by simp [World.cell?, hq, rdCells]
  clear hq
  cases o
  · go_enter Yba.func13, Yba.ntmps13
    go_wp2
    go_region
    all_goals
      go_wp2
      go_ret
      exact ⟨rfl, rfl⟩
  · go_enter Yba.func13, Yba.ntmps13
    go_wp2
    go_region
    all_goals
      go_wp2
      go_ret
      exact ⟨rfl, rfl⟩

/-- What closesAtOnce answers. -/
def hitB (f : Nat → Int) (L q : Nat) (o : Bool) : Bool := decide (q < L) && f q == clo o

def AtOncePost (b : Nat) (bv lv : Value) (f : Nat → Int) (L p k : Nat) (o : Bool) (w : World) (e : Ending) (w' : World) : Prop :=
  ∃ q, Stop f L p q ∧ e = .returned (.bool (hitB f L q o)) ∧ w'.heap[b]? = some (rdb bv lv (if hitB f L q o then ((q + 1 : Nat) : Int) else (q : Int)) (if hitB f L q o then (k : Int) else ((k + 1 : Nat) : Int))) ∧ Kept (fun i => i = b) w w'

set_option maxRecDepth 100000 in
set_option maxHeartbeats 2000000 in
theorem atOnce_any (b bb L cp p g n cl k : Nat) (o : Bool) (f : Nat → Int) (w : World) (hL : L ≤ 1024) (hp : p ≤ L) (hk : k < n) (hn : n ≤ 1024) (hbb : bb ≠ b) (hgb : g ≠ b) (hbl : bb < w.heap.size) (hgl : g < w.heap.size) (hB : Body w bb L f)
    (hq : w.heap[b]? = some (rdb (.slice (some ⟨bb, 0, none⟩) L cp) (.slice (some ⟨g, 0, none⟩) n cl) p ((k + 1 : Nat) : Int))) (ho : w.cell? ⟨g, k * 30, none⟩ = some (.bool o)) :
    Calls Yba.prog 9 #[.pointer (some ⟨b, 0, none⟩)] w (AtOncePost b (.slice (some ⟨bb, 0, none⟩) L cp) (.slice (some ⟨g, 0, none⟩) n cl) f L p k o w) := by
  go_enter Yba.func9, Yba.ntmps9
  go_wp2_with fail
  refine (skip_any b bb L cp p _ _ f w hL hp hbb hbl hB hq).mono ?_
  rintro e w1 ⟨rfl, q, hS, hq1, hk1⟩
  have ho1 := (World.cell?_of_block (a := ⟨g, k * 30, none⟩) (hk1.block g hgl hgb)).trans ho
  have c0 : w1.cell? ⟨b, 0, none⟩ = some (.slice (some ⟨bb, 0, none⟩) L cp) := by simp [World.cell?, hq1, rdCells]
  have c1 : w1.cell? ⟨b, 1, none⟩ = some (.int .i64 q) := by simp [World.cell?, hq1, rdCells]
  have c3 : w1.cell? ⟨b, 3, none⟩ = some (.int .i64 ((k : Int) + 1)) := by simp [World.cell?, hq1, rdCells]
  have f1 : w1.frozen? ⟨b, 1, none⟩ = false := by simp [World.frozen?, hq1]
  have f3 : w1.frozen? ⟨b, 3, none⟩ = false := by simp [World.frozen?, hq1]
  have hql := hS.hi
  by_cases hlt : q < L
  · have cb := (World.cell?_of_block (a := ⟨bb, q, none⟩) (hk1.block bb hbl hbb)).trans (hB q hlt).1
    obtain ⟨x, hx⟩ : ∃ x, x = f q := ⟨_, rfl⟩
    rw [← hx] at cb
    have clos : ∀ wx : World, wx.heap = w1.heap → Calls Yba.prog 13 #[.pointer (some ⟨b, 0, none⟩)] wx fun e w' => e = .returned (.int .u8 (clo o)) ∧ w' = wx.drew := by
      intro wx hwx
      refine closes_any b g n cl k _ q o wx hk hn (by rw [hwx]; exact hq1) ?_
      rw [World.cell?_of_block (w := w1) (a := ⟨g, k * 30, none⟩) (by rw [hwx])]
      exact ho1
    have CL : Hid (∀ m, Calls Yba.prog 13 #[.pointer (some ⟨b, 0, none⟩)] (w1.drewN m) fun e w' => e = .returned (.int .u8 (clo o)) ∧ ∃ q, w' = (w1.drewN m).drewN q) := fun m =>
      (clos (w1.drewN m) rfl).mono fun e w' ⟨h1, h2⟩ => ⟨h1, 1, h2⟩
    clear clos ho ho1 hB
    by_cases hit : x = clo o
    · have hh : hitB f L q o = true := by simp [hitB, hlt, ← hx, hit]
      subst hit
      have fin : ∀ m, AtOncePost b (.slice (some ⟨bb, 0, none⟩) L cp) (.slice (some ⟨g, 0, none⟩) n cl) f L p k o w (.returned (.bool true)) (((w1.setCell ⟨b, 1, none⟩ (.int .i64 ((q : Int) + 1))).setCell ⟨b, 3, none⟩ (.int .i64 k)).drewN m) := by
        intro m
        have hkk := ((hk1.setCell (p := ⟨b, 1, none⟩) rfl (.int .i64 ((q : Int) + 1))).setCell (p := ⟨b, 3, none⟩) rfl (.int .i64 k))
        refine ⟨q, hS, by rw [hh], ?_, ⟨hkk.os, hkk.tape, hkk.output, hkk.size, hkk.block⟩⟩
        show ((w1.setCell ⟨b, 1, none⟩ (.int .i64 ((q : Int) + 1))).setCell ⟨b, 3, none⟩ (.int .i64 k)).heap[b]? = _
        rw [Joins.block_setCell (i := 3) (Joins.block_setCell (i := 1) hq1 _), hh]
        simp [rdCells]
      have FIN : Hid (∀ m, AtOncePost b (.slice (some ⟨bb, 0, none⟩) L cp) (.slice (some ⟨g, 0, none⟩) n cl) f L p k o w (.returned (.bool true)) (((w1.setCell ⟨b, 1, none⟩ (.int .i64 ((q : Int) + 1))).setCell ⟨b, 3, none⟩ (.int .i64 k)).drewN m)) := fin
      clear fin hh hx hS hq1 hk1 hq
      go_wp2
      go_quiet ((go_at_call 13; exact Calls.quiet_of (CL.out _)))
      go_wp2
      go_ret
      exact FIN.out _
    · have hh : hitB f L q o = false := by simp [hitB, ← hx, hit]
      have hne : (x == clo o) = false := by simpa using hit
      have fin : ∀ m, AtOncePost b (.slice (some ⟨bb, 0, none⟩) L cp) (.slice (some ⟨g, 0, none⟩) n cl) f L p k o w (.returned (.bool false)) (w1.drewN m) := by
        intro m
        refine ⟨q, hS, by rw [hh], ?_, ⟨hk1.os, hk1.tape, hk1.output, hk1.size, hk1.block⟩⟩
        rw [hh]
        exact hq1
      have FIN : Hid (∀ m, AtOncePost b (.slice (some ⟨bb, 0, none⟩) L cp) (.slice (some ⟨g, 0, none⟩) n cl) f L p k o w (.returned (.bool false)) (w1.drewN m)) := fin
      clear fin hh hx hS hq1 hk1 hq hit
      go_wp2
      go_quiet ((go_at_call 13; exact Calls.quiet_of (CL.out _)))
      go_wp2
      go_ret
      exact FIN.out _
  · have hh : hitB f L q o = false := by simp [hitB, hlt]
    have fin : ∀ m, AtOncePost b (.slice (some ⟨bb, 0, none⟩) L cp) (.slice (some ⟨g, 0, none⟩) n cl) f L p k o w (.returned (.bool false)) (w1.drewN m) := by
      intro m
      refine ⟨q, hS, by rw [hh], ?_, ⟨hk1.os, hk1.tape, hk1.output, hk1.size, hk1.block⟩⟩
      rw [hh]
      exact hq1
    have FIN : Hid (∀ m, AtOncePost b (.slice (some ⟨bb, 0, none⟩) L cp) (.slice (some ⟨g, 0, none⟩) n cl) f L p k o w (.returned (.bool false)) (w1.drewN m)) := fin
    clear fin hh hS hq1 hk1 hq ho ho1 hB
    go_wp2
    go_quiet ((fail))
    go_wp2
    go_ret
    exact FIN.out _
end Go.Proofs.Ybulkqma

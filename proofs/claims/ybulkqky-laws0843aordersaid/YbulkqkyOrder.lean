import Derived.Test.YbulkqkyEnds
import Derived.Deep.RegionWith
import Derived.Conc.LoneSelectN
namespace Go.Proofs.Ybulkqky
open Go.RowKit Go.Conc

theorem inv_start {w w1 : World} {cap : Nat} (hown : w1.ownsRow (w.heap.size + 2) 28 6 (.slice (some ⟨w.heap.size + 2, 0, none⟩) 0 cap) 0 []) (hg : (fresh w).grownBy w1 none) :
    Inv w.heap.size cap w 0 [] w1 (.slice none 0 0) 0 #[] := by
  have hs : (fresh w).heap.size = w.heap.size + 2 := by simp [fresh]
  have e1 : (fresh w).heap[w.heap.size + 1]? = some (qb 0 (.slice none 0 0) w.heap.size) := by
    have := heap_alloc_new (w.alloc (.chan 1 #[] false 0 0 false)) (.cells #[.int .i32 0, .int .u32 0, .slice none 0 0, .chan (some w.heap.size)] 42)
    simpa [fresh] using this
  have e0 : (fresh w).heap[w.heap.size]? = some (.chan 1 #[] false 0 0 false) := by
    unfold fresh
    rw [Below.heap_alloc _ _ _ (by simp)]
    exact heap_alloc_new w _
  have hb : Below w.heap.size w (fresh w) := below_allocs2 w _ _
  refine ⟨rfl, (hg.block _ (by omega) (by simp)).trans e1, World.ownsRow_nil _ _ _ _, (hg.block _ (by omega) (by simp)).trans e0, hown, hb.grown hg (by omega) (by simp), ?_, rfl⟩
  have := (hown.lt (w.heap.size + 2) rfl).2
  omega

set_option maxRecDepth 100000 in
set_option maxHeartbeats 1000000 in
theorem order_walk (a0 a1 : Option Addr) (len0 cap0 len1 cap1 : Nat) (Z0 Z1 : Nat → ZE) (w : World) (h0 : IsEnds w a0 len0 Z0) (h1 : IsEnds w a1 len1 Z1) (hl0 : len0 ≤ 1024) (hl1 : len1 ≤ 1024) :
    Calls Yba.prog 3 #[.slice a0 len0 cap0, .slice a1 len1 cap1] w fun e w' => e = .returned (.bool true) ∧ Below w.heap.size w w' := by
  obtain ⟨i0, hi, hz0, hz1, hz2⟩ := info_parts info28
  go_enter Yba.func3, Yba.ntmps3
  go_wp2_with (first | (go_at_call 7; refine (new_any _).mono ?_; rintro e w' ⟨rfl, rfl⟩) | (at_make; refine wpList_make_own _ rfl _ _ 25 rfl (w.heap.size + 2) 28 i0 _ 6 Yba.underlying25 hi hz0 hz1 _ _ _ (len0 + len1) rfl rfl (by omega) (by rw [hz2]; omega) (by unfold maxLen; omega) ?mb ?_))
  case mb => simp [fresh]
  intro w1 hown1 hgrow1
  have hfs : (fresh w).heap.size = w.heap.size + 2 := by simp [fresh]
  rw [hfs] at hown1
  rw [hfs]
  have hI : Inv w.heap.size (len0 + len1) w 0 [] w1 (.slice none 0 0) 0 #[] := inv_start hown1 hgrow1
  clear hown1 hgrow1 hfs
  obtain ⟨N, hN⟩ : ∃ N, N = w.heap.size := ⟨_, rfl⟩
  rw [← hN] at hI
  rw [← hN]
  have HN : Hid (N = w.heap.size) := hN
  clear hN
  go_wp2
  go_loopw [6, 7] (fun v i wr => ∃ (k : Nat) (L : List SE) (pv : Value) (s : Nat) (buf : Array Value), k ≤ len0 ∧ v = .slice (some ⟨N + 2, 0, none⟩) k (len0 + len1) ∧ i = .int .i64 k ∧ Inv N (len0 + len1) w k L wr pv s buf) (fun _ i _ => len0 - (intOf i).toNat)
  case atStart => exact ⟨0, [], _, 0, #[], Nat.zero_le _, rfl, rfl, hI⟩
  case round =>
    obtain ⟨k, L, pv, s, buf, hk, rfl, rfl, hI⟩ := hrel
    by_cases hlt : k < len0
    · obtain ⟨b, off, ha, hb, hc⟩ := h0.resolve_left (by omega)
      subst ha
      obtain ⟨q0, q1, q2, q3, q4, q5, q6, q7, q8⟩ := ends9 hI.below (by rw [HN.out]; exact hb) (hc k hlt)
      clear hc
      go_wp2_with fail
      refine (make_any _ _ _ _ _ _ _ _ _ _).mono ?_
      rintro e w2 ⟨ad, rfl, hb2⟩
      have hI2 := hI.later hb2
      clear q0 q1 q2 q3 q4 q5 q6 q7 q8 hI hb2 h0
      go_wp2_with (at_builtin; refine wpList_append_fits _ rfl (.tmp 39) (.tmp 41) 25 rfl (N + 2) 28 i0 6 Yba.underlying25 hi hz1 (N + 2) k (len0 + len1) (flat L) rfl ((hI2.all.alloc _).alloc _) ⟨w2.heap.size + 1, 0, none⟩ 1 1 [.string (Z0 k).p, .string (Z0 k).n, .string (Z0 k).s, .int .i64 (Z0 k).pid, .pointer ad, .string (Z0 k).run] rfl rfl ?c1 (one6 _ _ _ _ _ _) (by omega) ?_)
      case c1 => exact new6' _ _ (by simp) _ _ _ _ _ _
      intro w3 hown3 hgrow3
      obtain ⟨hM, y0, y1, y2, y3, y4, y5⟩ := hI2.appended (z := ⟨(Z0 k).p, (Z0 k).n, (Z0 k).s, (Z0 k).pid, ad, (Z0 k).run⟩) hgrow3 hown3
      clear hown3 hgrow3 hI2
      simp only at y0 y1 y2 y3 y4 y5
      go_wp2_with fail
      refine (add_any (N + 1) N (N + 3) k pv (flat L) buf s 0 _ _ _ _ _ _ _ hM.q hM.pend hM.ch hM.size (by omega)).mono ?_
      intro e w4 hp
      obtain ⟨rfl, pv', s', hI4⟩ := hM.added hp
      clear hM hp y0 y1 y2 y3 y4 y5
      go_wp2
      go_roundw
      case rel => exact ⟨k + 1, _, pv', s', _, by omega, by go_num, by go_num, hI4⟩
      case measure => simp [intOf]; omega
    · obtain rfl : k = len0 := by omega
      go_wp2
      go_loopw [6, 9] (fun v i wr => ∃ (m : Nat) (L : List SE) (pv : Value) (s : Nat) (buf : Array Value), m ≤ len1 ∧ v = .slice (some ⟨N + 2, 0, none⟩) (k + m) (k + len1) ∧ i = .int .i64 m ∧ Inv N (k + len1) w (k + m) L wr pv s buf) (fun _ i _ => len1 - (intOf i).toNat)
      case atStart => exact ⟨0, L, pv, s, buf, Nat.zero_le _, rfl, rfl, hI⟩
      case round =>
        clear hI hlt
        obtain ⟨m, L, pv, s, buf, hm, rfl, rfl, hI⟩ := hrel
        by_cases hlt : m < len1
        · obtain ⟨b, off, ha, hb, hc⟩ := h1.resolve_left (by omega)
          subst ha
          obtain ⟨q0, q1, q2, q3, q4, q5, q6, q7, q8⟩ := ends9 hI.below (by rw [HN.out]; exact hb) (hc m hlt)
          clear hc
          go_wp2_with fail
          refine (make_any _ _ _ _ _ _ _ _ _ _).mono ?_
          rintro e w2 ⟨ad, rfl, hb2⟩
          have hI2 := hI.later hb2
          clear q0 q1 q2 q3 q4 q5 q6 q7 q8 hI hb2 h1
          go_wp2_with (at_builtin; refine wpList_append_fits _ rfl (.tmp 57) (.tmp 59) 25 rfl (N + 2) 28 i0 6 Yba.underlying25 hi hz1 (N + 2) (k + m) (k + len1) (flat L) rfl ((hI2.all.alloc _).alloc _) ⟨w2.heap.size + 1, 0, none⟩ 1 1 [.string (Z1 m).p, .string (Z1 m).n, .string (Z1 m).s, .int .i64 (Z1 m).pid, .pointer ad, .string (Z1 m).run] rfl rfl ?c1 (one6 _ _ _ _ _ _) (by omega) ?_)
          case c1 => exact new6' _ _ (by simp) _ _ _ _ _ _
          intro w3 hown3 hgrow3
          obtain ⟨hM, y0, y1, y2, y3, y4, y5⟩ := hI2.appended (z := ⟨(Z1 m).p, (Z1 m).n, (Z1 m).s, (Z1 m).pid, ad, (Z1 m).run⟩) hgrow3 hown3
          clear hown3 hgrow3 hI2
          simp only at y0 y1 y2 y3 y4 y5
          go_wp2_with fail
          refine (add_any (N + 1) N (N + 3) (k + m) pv (flat L) buf s 0 _ _ _ _ _ _ _ hM.q hM.pend hM.ch hM.size (by omega)).mono ?_
          intro e w4 hp
          obtain ⟨rfl, pv', s', hI4⟩ := hM.added hp
          clear hM hp y0 y1 y2 y3 y4 y5
          go_wp2
          go_roundw
          case rel => exact ⟨m + 1, _, pv', s', _, by omega, by go_num, by go_num, hI4⟩
          case measure => simp [intOf]; omega
        · obtain rfl : m = len1 := by omega
          obtain ⟨ao, cp, hpv⟩ := own_slice hI.pend
          subst hpv
          have p2 : wr.cell? ⟨N + 1, 2, none⟩ = some (.slice ao (k + m) cp) := by simp [World.cell?, hI.q]
          clear h0 h1
          go_wp2
          go_loopw [11] (fun i wr => ∃ (j : Nat), j ≤ k + m ∧ i = .int .i64 j ∧ Inv N (k + m) w (k + m) L wr (.slice ao (k + m) cp) s buf) (fun i _ => k + m - (intOf i).toNat)
          case atStart => exact ⟨0, Nat.zero_le _, rfl, hI⟩
          case round =>
            clear hI p2 hlt
            obtain ⟨j, hj, rfl, hI⟩ := hrel
            by_cases hlt : j < k + m
            · obtain ⟨g, cp', e⟩ := own_slice_pos hI.pend (by omega)
              simp only [Value.slice.injEq, true_and] at e
              obtain ⟨rfl, rfl⟩ := e
              have hLl := hI.len
              have hjL : j < L.length := by omega
              obtain ⟨q0, q1, q2, q3, q4, q5⟩ := own6 hI.pend hLl j hjL
              obtain ⟨r0, r1, r2, r3, r4, r5⟩ := own6 hI.all hLl j hjL
              have p2 : wr.cell? ⟨N + 1, 2, none⟩ = some (.slice (some ⟨g, 0, none⟩) (k + m) cp) := by simp [World.cell?, hI.q]
              clear hLl
              generalize L[j] = z at *
              go_wp2
              go_region_with (go_at_call 10; refine (eq_any _ _ _ _ _ _ _).mono ?_; rintro e w2 ⟨rfl, hb2⟩)
              all_goals
                have hI2 := hI.drew.later hb2
                clear q0 q1 q2 q3 q4 q5 r0 r1 r2 r3 r4 r5 p2 hI hb2
                go_wp2
                go_roundw
                case rel => exact ⟨j + 1, by omega, by go_num, hI2⟩
                case measure => simp [intOf]; omega
            · have hbs := hI.bs
              have c3 : wr.cell? ⟨N + 1, 3, none⟩ = some (.chan (some N)) := by simp [World.cell?, hI.q]
              have hlen := fun ty => run_len_chan (P := Yba.prog) 40 ty Yba.underlying40 hI.ch
              have hbel : Below w.heap.size w wr := by rw [← HN.out]; exact hI.below
              by_cases hz : 0 < k + m
              · rw [show buf.size = 1 from by omega] at hlen
                clear hbs hI
                go_wp2
                go_ret
                exact ⟨rfl, hbel⟩
              · rw [show buf.size = 0 from by omega] at hlen
                clear hbs hI
                go_wp2
                go_ret
                exact ⟨rfl, hbel⟩
set_option maxRecDepth 100000 in
theorem order_long (a0 a1 : Option Addr) (len0 cap0 len1 cap1 : Nat) (w : World) (h : 1024 < len0 ∨ 1024 < len1) :
    Calls Yba.prog 3 #[.slice a0 len0 cap0, .slice a1 len1 cap1] w fun e w' => e = .returned (.bool true) ∧ Below w.heap.size w w' := by
  by_cases h0 : 1024 < len0
  · go_enter Yba.func3, Yba.ntmps3
    go_wp2
    go_ret
    exact ⟨rfl, Below.refl _ _⟩
  · have h1 : 1024 < len1 := by omega
    go_enter Yba.func3, Yba.ntmps3
    go_wp2
    go_ret
    exact ⟨rfl, Below.refl _ _⟩

theorem order_any (a0 a1 : Option Addr) (len0 cap0 len1 cap1 : Nat) (Z0 Z1 : Nat → ZE) (w : World) (h0 : IsEnds w a0 len0 Z0) (h1 : IsEnds w a1 len1 Z1) :
    Calls Yba.prog 3 #[.slice a0 len0 cap0, .slice a1 len1 cap1] w fun e w' => e = .returned (.bool true) ∧ Below w.heap.size w w' := by
  by_cases h : 1024 < len0 ∨ 1024 < len1
  · exact order_long a0 a1 len0 cap0 len1 cap1 w h
  · exact order_walk a0 a1 len0 cap0 len1 cap1 Z0 Z1 w h0 h1 (by omega) (by omega)
end Go.Proofs.Ybulkqky

import Derived.Test.YbulkqkyFifo
import Derived.Deep.RegionWith
import Derived.Conc.LoneSelectN
namespace Go.Proofs.Ybulkqky
open Go.RowKit Go.Conc

def lenOf : Value → Nat | .slice _ n _ => n | _ => 0

/-- Where 'model[1:]' begins: at the array's end the address stays. -/
theorem cut_addr (N d n r : Nat) : ∃ A : Addr, (if n + 1 + r = 1 then some (⟨N + 2, d * 6, none⟩ : Addr) else some ⟨N + 2, d * 6 + 6, none⟩) = some A ∧ (0 < n + r → A = ⟨N + 2, (d + 1) * 6, none⟩) := by
  by_cases h : n + 1 + r = 1
  · exact ⟨_, if_pos h, fun h' => by omega⟩
  · exact ⟨_, if_neg h, fun _ => by rw [Nat.add_mul]⟩

/-- What the walk asks of the bytes of the script. -/
def IsOps (w : World) (a1 : Option Addr) (len1 : Nat) (zs : List Int) : Prop :=
  ∀ i, i < len1 → ∃ b off, a1 = some ⟨b, off, none⟩ ∧ b < w.heap.size ∧ w.cell? ⟨b, off + i, none⟩ = some (.int .u8 (zs.getD i 0)) ∧ 0 ≤ zs.getD i 0 ∧ zs.getD i 0 ≤ 255

set_option maxRecDepth 100000 in
set_option maxHeartbeats 2000000 in
theorem take_walk (a0 a1 : Option Addr) (len0 cap0 len1 cap1 : Nat) (Z0 : Nat → ZE) (zs : List Int) (w : World) (h0 : IsEnds w a0 len0 Z0)
    (h1 : IsOps w a1 len1 zs) (hl0 : len0 ≤ 1024) (hl1 : len1 ≤ 1024) :
    Calls Yba.prog 4 #[.slice a0 len0 cap0, .slice a1 len1 cap1] w fun e w' => e = .returned (.bool true) ∧ Below w.heap.size w w' := by
  obtain ⟨i0, hi, hz0, hz1, hz2⟩ := info_parts info28
  go_enter Yba.func4, Yba.ntmps4
  go_wp2_with (first | (go_at_call 7; refine (new_any _).mono ?_; rintro e w' ⟨rfl, rfl⟩) | (go_at_call 11; go_in) | (at_make; refine wpList_make_own _ rfl _ _ 25 rfl (w.heap.size + 2) 28 i0 _ 6 Yba.underlying25 hi hz0 hz1 _ _ _ len0 rfl rfl (by omega) (by rw [hz2]; omega) (by unfold maxLen; omega) ?mb ?_))
  case mb => simp [fresh]
  intro w1 hown1 hgrow1
  have hfs : (fresh w).heap.size = w.heap.size + 2 := by simp [fresh]
  rw [hfs] at hown1
  rw [hfs]
  have hI : TInv w.heap.size len0 w 0 0 [] w1 (.slice none 0 0) 0 #[] := TInv.start hown1 hgrow1
  clear hown1 hgrow1 hfs
  obtain ⟨N, hN⟩ : ∃ N, N = w.heap.size := ⟨_, rfl⟩
  rw [← hN] at hI
  rw [← hN]
  have HN : Hid (N = w.heap.size) := hN
  clear hN
  go_wp2
  go_loopw [7, 8, 9] (fun mv nx i wr => ∃ (j d n r : Nat) (L : List SE) (pv : Value) (s : Nat) (buf : Array Value) (ad : Addr), j ≤ len1 ∧ Hid (d + n + r = len0) ∧ mv = .slice (some ad) n (n + r) ∧ nx = .int .i64 ((d + n : Nat) : Int) ∧ i = .int .i64 j ∧ (0 < n + r → ad = ⟨N + 2, d * 6, none⟩) ∧ TInv N len0 w d n L wr pv s buf) (fun _ _ i _ => len1 - (intOf i).toNat)
  case atStart => exact ⟨0, 0, 0, len0, [], _, 0, #[], ⟨N + 2, 0, none⟩, Nat.zero_le _, by simp [Hid], by simp, rfl, rfl, fun _ => by simp, hI⟩
  case round =>
    clear hI
    obtain ⟨j, d, n, r, L, pv, s, buf, ad, hj, hsum, rfl, rfl, rfl, had, hI⟩ := hrel
    by_cases hlt : j < len1
    · obtain ⟨b1, off1, ha1, hb1, hcell1, hlo, hhi⟩ := h1 j hlt
      subst ha1
      have hop := (hI.below.cell (p := ⟨b1, off1 + j, none⟩) (by rw [HN.out]; exact hb1)).trans hcell1
      obtain ⟨x, hx⟩ : ∃ x, x = zs.getD j 0 := ⟨_, rfl⟩
      rw [← hx] at hop hlo hhi
      clear hx hcell1
      by_cases hA : x % 2 = 0 ∧ d + n < len0
      · obtain ⟨hpar, hnx⟩ := hA
        obtain ⟨b, off, ha, hb, hc⟩ := h0.resolve_left (by omega)
        subst ha
        obtain ⟨q0, q1, q2, q3, q4, q5, q6, q7, q8⟩ := ends9 hI.below (by rw [HN.out]; exact hb) (hc (d + n) hnx)
        clear hc
        obtain ⟨r', rfl⟩ : ∃ r', r = r' + 1 := ⟨r - 1, by have := hsum.out; omega⟩
        have hsum' : Hid (d + (n + 1) + r' = len0) := by have := hsum.out; show _ = _; omega
        obtain rfl : ad = ⟨N + 2, d * 6, none⟩ := had (by omega)
        go_wp2_with fail
        refine (make_any _ _ _ _ _ _ _ _ _ _).mono ?_
        rintro e w2 ⟨pa, rfl, hb2⟩
        have hI2 := hI.later hb2
        clear q0 q1 q2 q3 q4 q5 q6 q7 q8 hI hb2 had
        obtain ⟨z, hz⟩ : ∃ z : SE, z = ⟨(Z0 (d + n)).p, (Z0 (d + n)).n, (Z0 (d + n)).s, (Z0 (d + n)).pid, pa, (Z0 (d + n)).run⟩ := ⟨_, rfl⟩
        rw [show (Z0 (d + n)).p = z.p by rw [hz], show (Z0 (d + n)).n = z.n by rw [hz], show (Z0 (d + n)).s = z.s by rw [hz], show (Z0 (d + n)).pid = z.pid by rw [hz], show pa = z.a by rw [hz], show (Z0 (d + n)).run = z.run by rw [hz]]
        clear hz
        have hIa := hI2.alloc (.cells #[.string z.p, .string z.n, .string z.s, .int .i64 z.pid, .pointer z.a, .string z.run] 28)
        go_wp2_with fail
        refine (add_any (N + 1) N (N + 3) n pv (flat (L.drop d)) buf s 0 _ _ _ _ _ _ _ hIa.q hIa.pend hIa.ch hIa.size (by omega)).mono ?_
        intro e w3 hp
        obtain ⟨rfl, pv', s', hM, y0, y1, y2, y3, y4, y5⟩ := hI2.added hp
        clear hp hI2 hIa
        go_wp2_with (at_builtin; refine wpList_append_mid _ rfl (.tmp 56) (.tmp 58) 25 rfl 28 i0 6 Yba.underlying25 hi hz1 (N + 2) (d * 6) n (n + (r' + 1)) rfl ⟨w3.heap.size, 0, none⟩ 1 1 [.string z.p, .string z.n, .string z.s, .int .i64 z.pid, .pointer z.a, .string z.run] rfl rfl (new6' _ _ rfl _ _ _ _ _ _) (one6 _ _ _ _ _ _) (by omega) (hM.spare (by omega) _) ?_)
        intro w4 hw4
        have hI4 : TInv N len0 w d (n + 1) (L ++ [z]) w4 pv' s' (sent buf) := by
          rw [hw4.out, show d * 6 + n * 6 = (d + n) * 6 by omega]
          exact hM.appended (by omega) _
        have hbs := hM.bs
        clear hM y0 y1 y2 y3 y4 y5 hw4
        have c3 : w4.cell? ⟨N + 1, 3, none⟩ = some (.chan (some N)) := by simp [World.cell?, hI4.q]
        have hlen := fun ty => run_len_chan (P := Yba.prog) 40 ty Yba.underlying40 hI4.ch
        rw [hbs] at hlen
        clear hbs
        go_wp2
        go_roundw
        case rel => exact ⟨j + 1, d, n + 1, r', _, pv', s', _, _, by omega, hsum', by rw [show n + 1 + r' = n + (r' + 1) by omega], by go_num, by go_num, fun _ => rfl, hI4⟩
        case measure => simp [intOf]; omega
      · rcases (show (x % 2 = 1) ∨ (x % 2 = 0 ∧ len0 ≤ d + n) by omega) with hpar | ⟨hpar, hnx⟩
        all_goals
          clear hA
          by_cases hn : 0 < n
          · obtain ⟨n', rfl⟩ : ∃ n', n = n' + 1 := ⟨n - 1, by omega⟩
            obtain ⟨g, cp, e⟩ := own_slice_pos hI.pend (by omega)
            subst e
            obtain rfl : ad = ⟨N + 2, d * 6, none⟩ := had (by omega)
            have p2 : wr.cell? ⟨N + 1, 2, none⟩ = some (.slice (some ⟨g, 0, none⟩) (n' + 1) cp) := by simp [World.cell?, hI.q]
            have hdL : d < L.length := by have := hI.len; omega
            have hpend : wr.ownsRow (N + 3) 28 6 (.slice (some ⟨g, 0, none⟩) (n' + 1) cp) (n' + 1) (flat (L[d] :: L.drop (d + 1))) := by
              have := hI.pend
              rwa [List.drop_eq_getElem_cons hdL] at this
            clear had
            go_wp2_with fail
            refine (take_any (N + 1) N (N + 3) n' g cp L[d] (L.drop (d + 1)) _ wr (by simp; have := hI.len; omega) hI.q hpend).mono ?_
            intro e w2 hp
            obtain ⟨rfl, pv', hI2⟩ := hI.taken hdL hp
            obtain ⟨q0, q1, q2, q3, q4, q5⟩ := own6 hI2.all hI2.len d hdL
            have hN2 : N + 2 < w2.heap.size := by have := hI2.size; omega
            clear hI hp hpend p2
            generalize L[d] = z at *
            go_wp2_with fail
            go_region_with (go_at_call 10; refine (eq_any _ _ _ _ _ _ _).mono ?_; rintro e w3 ⟨rfl, hb3⟩)
            all_goals
              have hI3 := (hI2.alloc _).drew.later hb3
              clear q0 q1 q2 q3 q4 q5 hI2 hb3
              go_wp2
              go_roundw
              case rel =>
                obtain ⟨A, eA, eA'⟩ := cut_addr N d n' r
                exact ⟨j + 1, d + 1, n', r, L, pv', s, buf, A, by omega, by have := hsum.out; show _ = _; omega, by rw [eA], by go_num, by go_num, eA', hI3⟩
              case measure => simp [intOf]; omega
          · obtain rfl : n = 0 := by omega
            clear hn
            go_wp2
            go_roundw
            case rel => exact ⟨j + 1, d, 0, r, L, pv, s, buf, ad, by omega, hsum, rfl, by go_num, by go_num, had, hI⟩
            case measure => simp [intOf]; omega
    · clear h0 h1
      go_wp2
      go_loopw [7] (fun mv wr => ∃ (d n r : Nat) (pv : Value) (ad : Addr), mv = .slice (some ad) n (n + r) ∧ (0 < n + r → ad = ⟨N + 2, d * 6, none⟩) ∧ n ≤ 1024 ∧ TInv N len0 w d n L wr pv s buf) (fun mv _ => lenOf mv)
      case atStart => exact ⟨d, n, r, pv, ad, rfl, had, by have := hsum.out; omega, hI⟩
      case round =>
        clear hI had hsum
        obtain ⟨d, n, r, pv, ad, rfl, had, hn1, hI⟩ := hrel
        by_cases hn : 0 < n
        · obtain ⟨n', rfl⟩ : ∃ n', n = n' + 1 := ⟨n - 1, by omega⟩
          obtain ⟨g, cp, e⟩ := own_slice_pos hI.pend (by omega)
          subst e
          obtain rfl : ad = ⟨N + 2, d * 6, none⟩ := had (by omega)
          have p2 : wr.cell? ⟨N + 1, 2, none⟩ = some (.slice (some ⟨g, 0, none⟩) (n' + 1) cp) := by simp [World.cell?, hI.q]
          have hdL : d < L.length := by have := hI.len; omega
          have hpend : wr.ownsRow (N + 3) 28 6 (.slice (some ⟨g, 0, none⟩) (n' + 1) cp) (n' + 1) (flat (L[d] :: L.drop (d + 1))) := by
            have := hI.pend
            rwa [List.drop_eq_getElem_cons hdL] at this
          clear had
          go_wp2_with fail
          refine (take_any (N + 1) N (N + 3) n' g cp L[d] (L.drop (d + 1)) _ wr (by simp; have := hI.len; omega) hI.q hpend).mono ?_
          intro e w2 hp
          obtain ⟨rfl, pv', hI2⟩ := hI.taken hdL hp
          obtain ⟨q0, q1, q2, q3, q4, q5⟩ := own6 hI2.all hI2.len d hdL
          have hN2 : N + 2 < w2.heap.size := by have := hI2.size; omega
          clear hI hp hpend p2
          generalize L[d] = z at *
          go_wp2_with fail
          go_region_with (go_at_call 10; refine (eq_any _ _ _ _ _ _ _).mono ?_; rintro e w3 ⟨rfl, hb3⟩)
          all_goals
            have hI3 := (hI2.alloc _).drew.later hb3
            clear q0 q1 q2 q3 q4 q5 hI2 hb3
            obtain ⟨A, eA, eA0⟩ := cut_addr N d n' r
            have eA' : Hid (0 < n' + r → A = ⟨N + 2, (d + 1) * 6, none⟩) := eA0
            clear eA0
            go_wp2
            go_roundw
            case rel => first | exact ⟨d + 1, n', r, pv', A, rfl, eA'.out, by omega, hI3⟩ | ((repeat apply Exists.intro); exact ⟨⟨d + 1, n', r, pv', A, rfl, eA'.out, by omega, hI3⟩, rfl⟩)
            case measure => simp [lenOf]
        · obtain rfl : n = 0 := by omega
          obtain ⟨ao, cp, hpv⟩ := own_slice hI.pend
          subst hpv
          have p2 : wr.cell? ⟨N + 1, 2, none⟩ = some (.slice ao 0 cp) := by simp [World.cell?, hI.q]
          have hbel : Below w.heap.size w wr := by rw [← HN.out]; exact hI.below
          clear hI hn
          go_wp2
          go_ret
          exact ⟨rfl, hbel⟩

set_option maxRecDepth 100000 in
theorem take_long (a0 a1 : Option Addr) (len0 cap0 len1 cap1 : Nat) (w : World) (h : 1024 < len0 ∨ 1024 < len1) :
    Calls Yba.prog 4 #[.slice a0 len0 cap0, .slice a1 len1 cap1] w fun e w' => e = .returned (.bool true) ∧ Below w.heap.size w w' := by
  by_cases h0 : 1024 < len0
  · go_enter Yba.func4, Yba.ntmps4
    go_wp2
    go_ret
    exact ⟨rfl, Below.refl _ _⟩
  · have h1 : 1024 < len1 := by omega
    go_enter Yba.func4, Yba.ntmps4
    go_wp2
    go_ret
    exact ⟨rfl, Below.refl _ _⟩

theorem takelaw_any (a0 a1 : Option Addr) (len0 cap0 len1 cap1 : Nat) (Z0 : Nat → ZE) (zs : List Int) (w : World) (h0 : IsEnds w a0 len0 Z0) (h1 : IsOps w a1 len1 zs) :
    Calls Yba.prog 4 #[.slice a0 len0 cap0, .slice a1 len1 cap1] w fun e w' => e = .returned (.bool true) ∧ Below w.heap.size w w' := by
  by_cases h : 1024 < len0 ∨ 1024 < len1
  · exact take_long a0 a1 len0 cap0 len1 cap1 w h
  · exact take_walk a0 a1 len0 cap0 len1 cap1 Z0 zs w h0 h1 (by omega) (by omega)
end Go.Proofs.Ybulkqky

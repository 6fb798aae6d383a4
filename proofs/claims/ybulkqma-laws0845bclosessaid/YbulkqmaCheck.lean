/-
  'zzs0845bcheck': the law over a body, the open levels, a place and a depth.
-/
import Derived.Test.YbulkqmaCloses
import Derived.Deep.DeepCutAuto
namespace Go.Proofs.Ybulkqma
open Go.RowKit

/-- The thirty cells of 'level{object: o}'. -/
def lvz (o : Bool) : List Value := [.bool o, .int .i64 0, .slice none 0 0, .int .i64 0, .int .i64 0, .int .i64 0, .int .i64 0, .int .i64 0, .int .i64 0, .int .i64 0, .int .i64 0, .int .i64 0, .int .i64 0, .int .i64 0, .int .i64 0, .int .i64 0, .int .i64 0, .int .i64 0, .int .i64 0, .bool false, .slice none 0 0, .slice none 0 0, .bool false, .int .i64 0, .bool false, .slice none 0 0, .slice none 0 0, .slice none 0 0, .slice none 0 0, .int .i64 0]
theorem info37 : (Yba.prog.info? 37).map (fun i => (i.zero, i.size, i.bytes)) = some (some (.agg #[.bool false, .int .i64 0, .slice none 0 0, .int .i64 0, .int .i64 0, .int .i64 0, .int .i64 0, .int .i64 0, .int .i64 0, .int .i64 0, .int .i64 0, .int .i64 0, .int .i64 0, .int .i64 0, .int .i64 0, .int .i64 0, .int .i64 0, .int .i64 0, .int .i64 0, .bool false, .slice none 0 0, .slice none 0 0, .bool false, .int .i64 0, .bool false, .slice none 0 0, .slice none 0 0, .slice none 0 0, .slice none 0 0, .int .i64 0]), 30, 352) := by kernel_rfl
theorem lvz_one (o : Bool) : ∀ u ∈ lvz o, u.oneCell' = true := by
  have h : (lvz o).all (·.oneCell') = true := rfl
  exact List.all_eq_true.1 h
theorem new30 (w : World) (o : Bool) (n : Nat) (hn : n = w.heap.size) : ∀ j u, (lvz o)[j]? = some u → (w.alloc (.cells (lvz o).toArray 37)).cell? ((⟨n, 0, none⟩ : Addr).add j) = some u := by
  subst hn
  intro j u hj
  have h := heap_alloc_new w (.cells (lvz o).toArray 37)
  rw [Addr.add_lit]
  simp only [World.cell?, h, Nat.zero_add]
  simpa using hj

def lvs (O : Nat → Bool) : Nat → List Value
  | 0 => []
  | k + 1 => lvs O k ++ lvz (O k)
theorem lvs_length (O : Nat → Bool) : ∀ k, (lvs O k).length = k * 30
  | 0 => rfl
  | k + 1 => by rw [lvs, List.length_append, lvs_length O k]; simp [lvz]; omega
theorem lvs_get (O : Nat → Bool) : ∀ k i, i < k → (lvs O k)[i * 30]? = some (.bool (O i))
  | 0, i, h => absurd h (by omega)
  | k + 1, i, h => by
    rw [lvs]
    by_cases e : i = k
    · subst e
      rw [List.getElem?_append_right (by rw [lvs_length]; exact Nat.le_refl _), lvs_length, Nat.sub_self]
      rfl
    · rw [List.getElem?_append_left (by rw [lvs_length]; omega)]
      exact lvs_get O k i (by omega)

/-- The objs that came in. -/
def IsObjs (w : World) (a : Option Addr) (n : Nat) (O : Nat → Bool) : Prop :=
  n = 0 ∨ ∃ b off, a = some ⟨b, off, none⟩ ∧ b < w.heap.size ∧ ∀ i, i < n → w.cell? ⟨b, off + i, none⟩ = some (.bool (O i))

theorem hideP {p : Prop} (h : p) : Hid p := h

/-- The call of closesAtOnce on the reader that the check has just laid. -/
theorem tail_call (bb L cp pos N q cl k r : Nat) (o : Bool) (f : Nat → Int) (w wc : World) (hL : L ≤ 1024) (hpos : pos ≤ L) (hkq : k < q) (hq : q ≤ 1024) (hNw : N ≤ wc.heap.size) (hbN : bb < N) (hNl : N < wc.heap.size) (hB : Body w bb L f) (hb : Below N w wc)
    (hko : wc.cell? ⟨N, k * 30, none⟩ = some (.bool o)) (hS : Stop f L pos r) :
    Calls Yba.prog 9 #[.pointer (some ⟨wc.heap.size, 0, none⟩)] (wc.alloc (.cells (rdCells (.slice (some ⟨bb, 0, none⟩) L cp) (.slice (some ⟨N, 0, none⟩) q cl) pos ((k : Int) + 1)) 50)) fun e w' =>
      e = .returned (.bool (hitB f L r o)) ∧ w'.cell? ⟨wc.heap.size, 1, none⟩ = some (.int .i64 (if hitB f L r o then (r : Int) + 1 else (r : Int))) ∧
      w'.cell? ⟨wc.heap.size, 3, none⟩ = some (.int .i64 (if hitB f L r o then (k : Int) else (k : Int) + 1)) ∧ Below N w w' := by
  have hb2 := hb.alloc hNw (.cells (rdCells (.slice (some ⟨bb, 0, none⟩) L cp) (.slice (some ⟨N, 0, none⟩) q cl) pos ((k : Int) + 1)) 50)
  have h := atOnce_any wc.heap.size bb L cp pos N q cl k o f (wc.alloc (.cells (rdCells (.slice (some ⟨bb, 0, none⟩) L cp) (.slice (some ⟨N, 0, none⟩) q cl) pos ((k : Int) + 1)) 50)) hL hpos hkq hq (by omega) (by omega) (by simp; omega) (by simp; omega)
    (fun i hi => ⟨(hb2.cell (p := ⟨bb, i, none⟩) hbN).trans (hB i hi).1, (hB i hi).2⟩) (heap_alloc_new _ _) ((World.cell?_of_block (a := ⟨N, k * 30, none⟩) (Below.heap_alloc _ _ _ hNl)).trans hko)
  refine h.mono ?_
  rintro e w' ⟨q', hS', rfl, hq', hk'⟩
  obtain rfl := hS.unique hS'
  refine ⟨rfl, ?_, ?_, Kept.below hb2 hk' (by simp; omega) (fun i hi => by omega)⟩
  · cases hh : hitB f L r o <;> simp [World.cell?, hq', rdCells, hh]
  · cases hh : hitB f L r o <;> simp [World.cell?, hq', rdCells, hh]

set_option maxRecDepth 100000 in
set_option maxHeartbeats 4000000 in
theorem check_any (bb L cp n c1 pos k : Nat) (a1 : Option Addr) (f : Nat → Int) (O : Nat → Bool) (w : World) (hL : L ≤ 1024) (hn : n ≤ 256) (hbl : bb < w.heap.size) (hB : Body w bb L f) (hO : IsObjs w a1 n O) (hpos : pos ≤ L) (hk : k < n ∨ k = 0) :
    Calls Yba.prog 6 #[.slice (some ⟨bb, 0, none⟩) L cp, .slice a1 n c1, .int .i64 pos, .int .i64 ((k + 1 : Nat) : Int)] w fun e w' => e = .returned (.bool true) ∧ Below w.heap.size w w' := by
  obtain ⟨i0, hi, hz0, hz1, hz2⟩ := info_parts info37
  go_enter Yba.func6, Yba.ntmps6
  go_wp2_with (at_make; refine wpList_make_own _ rfl _ _ 41 rfl w.heap.size 37 i0 _ 30 Yba.underlying41 hi hz0 hz1 _ _ _ (n + 1) rfl rfl (by omega) (by rw [hz2]; omega) (by unfold maxLen; omega) (Nat.le_refl _) ?_)
  intro w1 hown1 hgrow1
  obtain ⟨N, hN⟩ : ∃ N, N = w.heap.size := ⟨_, rfl⟩
  rw [← hN] at hown1
  rw [← hN]
  have hb1 : Below N w w1 := by rw [hN]; exact (Below.refl _ _).grown hgrow1 (Nat.le_refl _) (fun k h => by cases h)
  have HN : Hid (N = w.heap.size) := hN
  clear hN hgrow1
  go_wp2
  go_loopw [9, 23] (fun v i wr => ∃ m : Nat, m ≤ n ∧ v = .slice (some ⟨N, 0, none⟩) m (n + 1) ∧ i = .int .i64 m ∧ wr.ownsRow N 37 30 (.slice (some ⟨N, 0, none⟩) m (n + 1)) m (lvs O m) ∧ Below N w wr) (fun _ i _ => n - (intOf i).toNat)
  case atStart => exact ⟨0, Nat.zero_le _, rfl, rfl, hown1, hb1⟩
  case round =>
    clear hown1 hb1
    obtain ⟨m, hm, rfl, rfl, hown, hb⟩ := hrel
    by_cases hlt : m < n
    · obtain ⟨ob, oo, rfl, hob, hoc⟩ := hO.resolve_left (by omega)
      have hom := (hb.cell (p := ⟨ob, oo + m, none⟩) (by rw [HN.out]; exact hob)).trans (hoc m hlt)
      obtain ⟨o, ho⟩ : ∃ o, o = O m := ⟨_, rfl⟩
      rw [← ho] at hom
      have HO : Hid (o = O m) := ho
      clear ho hoc
      go_wp2_with (at_builtin; refine wpList_append_fits _ rfl (.tmp 27) (.tmp 30) 41 rfl N 37 i0 30 Yba.underlying41 hi hz1 N m (n + 1) (lvs O m) rfl (hown.alloc _) ⟨wr.heap.size, 0, none⟩ 1 1 (lvz o) rfl rfl (new30 _ o _ rfl) (lvz_one o) (by omega) ?_)
      intro w2 hown2 hgrow2
      have hb2 : Below N w w2 := (hb.alloc (by have := (hown.lt N rfl).2; omega) _).grown hgrow2 (by have := (hown.lt N rfl).2; simp; omega) (fun k h => by simp at h; omega)
      have hown3 : w2.ownsRow N 37 30 (.slice (some ⟨N, 0, none⟩) (m + 1) (n + 1)) (m + 1) (lvs O (m + 1)) := by
        rw [lvs, ← HO.out]; exact hown2
      clear hown2 hgrow2 hom
      go_wp2
      go_roundw
      case rel => exact ⟨m + 1, by omega, rfl, by go_num, hown3, hb2⟩
      case measure => simp [intOf]; omega
    · obtain rfl : m = n := by omega
      clear hO hlt hm
      go_upto_if 35 with fail
      go_cut [9] (fun v wx => ∃ (q : Nat) (P : Nat → Bool), k < q ∧ q ≤ 256 ∧ v = .slice (some ⟨N, 0, none⟩) q (m + 1) ∧ wx.ownsRow N 37 30 (.slice (some ⟨N, 0, none⟩) q (m + 1)) q (lvs P q) ∧ Below N w wx)
      case first =>
        by_cases hm0 : m = 0
        · subst hm0
          go_wp2_with (at_builtin; refine wpList_append_fits _ rfl (.tmp 36) (.tmp 38) 41 rfl N 37 i0 30 Yba.underlying41 hi hz1 N 0 1 [] rfl (hown.alloc _) ⟨wr.heap.size, 0, none⟩ 1 1 (lvz false) rfl rfl (new30 _ false _ rfl) (lvz_one false) (by omega) ?_)
          intro w2 hown2 hgrow2
          have hb2 : Below N w w2 := (hb.alloc (by have := (hown.lt N rfl).2; omega) _).grown hgrow2 (by have := (hown.lt N rfl).2; simp; omega) (fun k h => by simp at h; omega)
          go_wp2
          go_meet
          case rel => exact ⟨1, fun _ => false, by omega, by omega, rfl, hown2, hb2⟩
        · go_wp2
          go_meet
          case rel => exact ⟨m, O, by omega, by omega, rfl, hown, hb⟩
      case rest =>
        clear hown hb hk
        obtain ⟨q, P, hkq, hq, rfl, hown, hb⟩ := hcut
        have hko : wc.cell? ⟨N, k * 30, none⟩ = some (.bool (P k)) := by
          rw [hown.cellAt (k * 30) (by omega)]; exact lvs_get P q k hkq
        obtain ⟨o, ho⟩ : ∃ o, o = P k := ⟨_, rfl⟩
        rw [← ho] at hko
        clear ho
        go_upto_if 53 with fail
        go_cut [12] (fun v wx => v = .int .u8 (clo o) ∧ wx = wc)
        case first =>
          cases o
          · go_wp2
            go_meet
            case rel => exact ⟨rfl, rfl⟩
          · go_wp2
            go_meet
            case rel => exact ⟨rfl, rfl⟩
        case rest =>
          obtain ⟨rfl, hwd⟩ := hcut
          subst hwd
          go_wp2
          go_loop [13] (fun v => ∃ r : Nat, pos ≤ r ∧ r ≤ L ∧ v = .int .i64 r ∧ ∀ i, pos ≤ i → i < r → spB (f i) = true) (fun v => L - (intOf v).toNat)
          case atStart => exact ⟨pos, Nat.le_refl _, hpos, rfl, fun i h1 h2 => by omega⟩
          case round =>
            obtain ⟨r, hr1, hr2, rfl, hsp⟩ := hrel
            have hbN : bb < N := by rw [HN.out]; exact hbl
            have hNl : N < wc.heap.size := (hown.lt N rfl).2
            by_cases hlt : r < L
            · have cb := (hb.cell (p := ⟨bb, r, none⟩) hbN).trans (hB r hlt).1
              obtain ⟨x, hx⟩ : ∃ x, x = f r := ⟨_, rfl⟩
              rw [← hx] at cb
              by_cases hs : spB x = true
              · have sp : Hid (∀ wx : World, Calls Yba.prog 8 #[.int .u8 x] wx fun e w' => e = .returned (.bool true) ∧ w' = wx) := fun wx => by rw [← hs]; exact space_any x wx
                have hsp' : ∀ i, pos ≤ i → i < r + 1 → spB (f i) = true := fun i h1 h2 => by
                  by_cases e : i = r
                  · subst e; rw [← hx]; exact hs
                  · exact hsp i h1 (by omega)
                have HSP : Hid (∀ i, pos ≤ i → i < r + 1 → spB (f i) = true) := hsp'
                clear hsp hsp' hs hx hB hown hko
                go_wp2_with (go_at_call 8; refine (sp.out _).mono ?_; rintro e w' ⟨rfl, rfl⟩)
                go_round
                case rel => exact ⟨r + 1, by omega, by omega, by go_num, HSP.out⟩
                case measure => simp [intOf]; omega
              · have hs0 : spB x = false := by simpa using hs
                have sp : Hid (∀ wx : World, Calls Yba.prog 8 #[.int .u8 x] wx fun e w' => e = .returned (.bool false) ∧ w' = wx) := fun wx => by rw [← hs0]; exact space_any x wx
                by_cases hit : x = clo o
                · have heq : (x == clo o) = true := by simpa using hit
                  have hh : hitB f L r o = true := by simp [hitB, hlt, ← hx, hit]
                  have TL := tail_call bb L cp pos N q (m + 1) k r o f w wc hL hpos hkq (by omega) (by omega) hbN hNl hB hb hko ⟨hr1, hr2, hsp, fun _ => by rw [← hx]; exact hs0⟩
                  rw [hh] at TL
                  simp only [↓reduceIte] at TL
                  simp only [rdCells] at TL
                  have HT := hideP TL
                  clear TL hh hsp hB hown hko hs hs0 hx hit
                  go_wp2_with (go_at_call 8; refine (sp.out _).mono ?_; rintro e w' ⟨rfl, rfl⟩)
                  refine HT.out.mono ?_
                  rintro e w5 ⟨rfl, d1, d3, hb5⟩
                  have hfin : Below w.heap.size w w5 := by rw [← HN.out]; exact hb5
                  clear HT hb5
                  go_wp2
                  go_ret
                  exact ⟨rfl, hfin⟩
                · have heq : (x == clo o) = false := by simpa using hit
                  have hh : hitB f L r o = false := by simp [hitB, ← hx, hit]
                  have TL := tail_call bb L cp pos N q (m + 1) k r o f w wc hL hpos hkq (by omega) (by omega) hbN hNl hB hb hko ⟨hr1, hr2, hsp, fun _ => by rw [← hx]; exact hs0⟩
                  rw [hh] at TL
                  simp only [Bool.false_eq_true, ↓reduceIte] at TL
                  simp only [rdCells] at TL
                  have HT := hideP TL
                  clear TL hh hsp hB hown hko hs hs0 hx hit
                  go_wp2_with (go_at_call 8; refine (sp.out _).mono ?_; rintro e w' ⟨rfl, rfl⟩)
                  refine HT.out.mono ?_
                  rintro e w5 ⟨rfl, d1, d3, hb5⟩
                  have hfin : Below w.heap.size w w5 := by rw [← HN.out]; exact hb5
                  clear HT hb5
                  go_wp2
                  go_ret
                  exact ⟨rfl, hfin⟩
            · skip
              have hh : hitB f L r o = false := by simp [hitB, hlt]
              have TL := tail_call bb L cp pos N q (m + 1) k r o f w wc hL hpos hkq (by omega) (by omega) hbN hNl hB hb hko ⟨hr1, hr2, hsp, fun h => absurd h hlt⟩
              rw [hh] at TL
              simp only [Bool.false_eq_true, ↓reduceIte] at TL
              simp only [rdCells] at TL
              have HT := hideP TL
              clear TL hh hsp hB hown hko
              go_wp2_with fail
              refine HT.out.mono ?_
              rintro e w5 ⟨rfl, d1, d3, hb5⟩
              have hfin : Below w.heap.size w w5 := by rw [← HN.out]; exact hb5
              clear HT hb5
              go_wp2
              go_ret
              exact ⟨rfl, hfin⟩
end Go.Proofs.Ybulkqma

import Derived.Test.YbulkqmaCheck
import Derived.Laws.CopyOwn
namespace Go.Proofs.Ybulkqma
open Go.RowKit

theorem check_int (bb L cp n c1 : Nat) (pos dep : Int) (a1 : Option Addr) (f : Nat → Int) (O : Nat → Bool) (w : World) (hL : L ≤ 1024) (hn : n ≤ 256) (hbl : bb < w.heap.size) (hB : Body w bb L f) (hO : IsObjs w a1 n O) (hp0 : 0 ≤ pos) (hpos : pos ≤ L) (hd1 : 1 ≤ dep) (hd : dep ≤ n ∨ dep = 1) :
    Calls Yba.prog 6 #[.slice (some ⟨bb, 0, none⟩) L cp, .slice a1 n c1, .int .i64 pos, .int .i64 dep] w fun e w' => e = .returned (.bool true) ∧ Below w.heap.size w w' := by
  obtain ⟨p, rfl⟩ : ∃ p : Nat, pos = p := ⟨pos.toNat, by omega⟩
  obtain ⟨k, rfl⟩ : ∃ k : Nat, dep = ((k + 1 : Nat) : Int) := ⟨dep.toNat - 1, by omega⟩
  exact check_any bb L cp n c1 p k a1 f O w hL hn hbl hB hO (by omega) (by omega)

theorem info5 : (Yba.prog.info? 5).map (fun i => (i.zero, i.size, i.bytes)) = some (some (.int .u8 0), 1, 1) := by kernel_rfl
theorem size5 : (Yba.prog.info? 5).map (·.size) = some 1 := by kernel_rfl

/-- Bytes that came in. -/
def IsBytes (w : World) (a : Option Addr) (len : Nat) (f : Nat → Int) : Prop :=
  len = 0 ∨ ∃ b off, a = some ⟨b, off, none⟩ ∧ b < w.heap.size ∧ ∀ i, i < len → w.cell? ⟨b, off + i, none⟩ = some (.int .u8 (f i)) ∧ 0 ≤ f i ∧ f i ≤ 255

theorem own_block {w : World} {B e n cap g : Nat} {xs : List Value} (h : w.ownsRow B e 1 (.slice (some ⟨g, 0, none⟩) n cap) n xs) : ∃ cur : List Value, w.heap[g]? = some (.cells cur.toArray e (0, 0)) ∧ cur.length = cap := by
  rcases h.2 with ⟨e, _⟩ | ⟨g', cp, cur, e, h1, h2, h3, h4, h5, h6⟩
  · simp at e
  · simp only [Value.slice.injEq, Option.some.injEq, Addr.mk.injEq, true_and, and_true] at e
    obtain ⟨rfl, rfl⟩ := e
    exact ⟨cur.toList, by simpa using h2, by simpa using h5⟩

set_option maxRecDepth 100000 in
set_option maxHeartbeats 1000000 in
theorem raw_walk (a0 : Option Addr) (len0 cap0 : Nat) (f : Nat → Int) (o : Bool) (p : Int) (w : World) (h0 : IsBytes w a0 len0 f) (hp0 : 0 ≤ p) (hp1 : p ≤ 65535) :
    Calls Yba.prog 4 #[.slice a0 len0 cap0, .bool o, .int .u16 p] w fun e w' => e = .returned (.bool true) ∧ Below w.heap.size w w' := by
  by_cases hl : 1024 < len0
  · go_enter Yba.func4, Yba.ntmps4
    go_wp2
    go_ret
    exact ⟨rfl, Below.refl _ _⟩
  · obtain ⟨i0, hi, hz0, hz1, hz2⟩ := info_parts info5
    go_enter Yba.func4, Yba.ntmps4
    go_wp2_with (at_make; refine wpList_make_full _ rfl _ _ 22 rfl w.heap.size 5 i0 _ 1 Yba.underlying22 hi hz0 hz1 _ _ _ _ len0 rfl rfl rfl rfl (by rw [hz2]; omega) (by unfold maxLen; omega) (Nat.le_refl _) ?_)
    intro w1 hown1 hgrow1
    obtain ⟨N, hN⟩ : ∃ N, N = w.heap.size := ⟨_, rfl⟩
    rw [← hN] at hown1
    rw [← hN]
    have hb1 : Below N w w1 := by rw [hN]; exact (Below.refl _ _).grown hgrow1 (Nat.le_refl _) (fun k h => by cases h)
    have HN : Hid (N = w.heap.size) := hN
    obtain ⟨cur, hg, hcl⟩ := own_block hown1
    have hNl := (hown1.lt N rfl).2
    clear hN hgrow1 hown1
    obtain ⟨cs, hcs⟩ : ∃ cs, cs = (List.range len0).map fun i => Value.int .u8 (f i) := ⟨_, rfl⟩
    have hcsl : cs.length = len0 := by rw [hcs]; simp
    have s1 : Hid (cs.length = Nat.min len0 len0) := by
      show _ = _
      rw [hcsl]
      exact (Nat.min_self len0).symm
    have s2 : Hid (0 < cs.length → some (⟨N, 0, none⟩ : Addr) = some ⟨N, 0, none⟩ ∧ ∃ ad, a0 = some ad ∧ ∀ j v, cs[j]? = some v → w1.cell? (ad.add j) = some v) := by
      intro hpos
      refine ⟨rfl, ?_⟩
      obtain ⟨b, off, ha, hb, hc⟩ := h0.resolve_left (by omega)
      refine ⟨_, ha, fun j v hj => ?_⟩
      have hjl : j < len0 := by
        have := (List.getElem?_eq_some_iff.1 hj).1
        omega
      rw [Addr.add_lit, hb1.cell (p := ⟨b, off + j, none⟩) (by rw [HN.out]; exact hb), (hc j hjl).1, ← hj, hcs]
      simp [hjl]
    have s3 : Hid (0 + cs.length ≤ cur.length) := by show _ ≤ _; omega
    have s4 : Hid (∀ v ∈ cs, v.oneCell' = true) := by
      intro v hv
      rw [hcs] at hv
      simp at hv
      obtain ⟨i, _, rfl⟩ := hv
      rfl
    have s5 : Hid (splice cur 0 cs = cs) := by
      show _ = _
      simp only [splice, List.take_zero, List.nil_append, Nat.zero_add]
      rw [hcsl, ← hcl, List.drop_length, List.append_nil]
    have s6 : Hid (∀ i, i < len0 → cs[i]? = some (.int .u8 (f i)) ∧ 0 ≤ f i ∧ f i ≤ 255) := by
      intro i hi'
      obtain ⟨b, off, ha, hb, hc⟩ := h0.resolve_left (by omega)
      exact ⟨by rw [hcs]; simp [hi'], (hc i hi').2⟩
    clear hcs h0 hcl hcsl
    go_wp2_with (refine wpList_copy_splice rfl (.tmp 15) (.tmp 16) 22 22 rfl 5 Yba.underlying22 size5 (some ⟨N, 0, none⟩) a0 len0 len0 len0 cap0 rfl rfl N 0 cur 5 hg cs s1.out s2.out s3.out s4.out N w hb1 (Nat.le_refl _) ?_)
    intro w2 hg2 hb2
    have hg3 : w2.heap[N]? = some (.cells cs.toArray 5 (0, 0)) := by rw [← s5.out]; exact hg2.out
    have hNl2 : N < w2.heap.size := lt_of_block hg3
    have hB2 : Body (w2.alloc (.cells #[.bool o] 4)) N len0 f := fun i hi' => by
      refine ⟨?_, (s6.out i hi').2⟩
      rw [World.cell?_alloc_past _ _ _ hNl2]
      simp only [World.cell?, hg3]
      simpa using (s6.out i hi').1
    have hO2 : IsObjs (w2.alloc (.cells #[.bool o] 4)) (some ⟨w2.heap.size, 0, none⟩) 1 (fun _ => o) := .inr ⟨w2.heap.size, 0, rfl, by simp, fun i hi' => by
      obtain rfl : i = 0 := by omega
      exact World.cell?_alloc_at #[.bool o] 4 w2.heap.size 0 rfl⟩
    have CK := check_int N len0 len0 1 1 (p % ((len0 : Int) + 1)) 1 (some ⟨w2.heap.size, 0, none⟩) f (fun _ => o) (w2.alloc (.cells #[.bool o] 4)) (by omega) (by omega) (by simp; omega) hB2 hO2 (Int.emod_nonneg _ (by omega)) (by have := Int.emod_lt_of_pos p (show 0 < (len0 : Int) + 1 by omega); omega) (by omega) (.inr rfl)
    have HCK := hideP CK
    clear CK hB2 hO2 hg2 hg3 s1 s2 s3 s4 s5 s6 hg hb1
    go_wp2_with fail
    refine HCK.out.mono ?_
    rintro e w5 ⟨rfl, hb5⟩
    have hfin : Below w.heap.size w w5 := by
      rw [← HN.out]
      exact (hb2.alloc (by omega) _).trans (hb5.mono (by simp; omega))
    clear HCK
    go_wp2
    go_ret
    exact ⟨rfl, hfin⟩
end Go.Proofs.Ybulkqma

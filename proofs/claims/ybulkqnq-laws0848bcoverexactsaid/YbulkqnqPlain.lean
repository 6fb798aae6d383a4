/-
  Plain laws on the nodes of a tree laid over n columns: node n + t is column t, node v stands for 2 v and 2 v + 1.
-/
import Derived.KernelRfl
namespace Go.Proofs.Ybulkqnq

/-- What one round visits. -/
def headF (I J : Nat) : List Nat := (if I % 2 = 1 then [I] else []) ++ (if J % 2 = 1 then [J - 1] else [])
/-- The fewest nodes that stand for I .. J - 1 of one level; 'f': enough rounds. -/
def covF : Nat → Nat → Nat → List Nat
  | 0, _, _ => []
  | f + 1, I, J => if I < J then headF I J ++ covF f ((I + 1) / 2) (J / 2) else []

/-- How often x stands on the chain from v up to the root. -/
def cc : Nat → Nat → Nat → Nat
  | 0, _, _ => 0
  | f + 1, v, x => if 1 ≤ v then (if x = v then 1 else 0) + cc f (v / 2) x else 0
/-- The sum of c over the chain. -/
def chs (c : Nat → Nat) : Nat → Nat → Nat
  | 0, _ => 0
  | f + 1, v => if 1 ≤ v then c v + chs c f (v / 2) else 0

theorem cc_zero (x : Nat) : ∀ f v, v < x → cc f v x = 0
  | 0, _, _ => rfl
  | f + 1, v, h => by
    rw [cc]
    split
    · rw [if_neg (by omega), cc_zero x f (v / 2) (by omega)]
    · rfl

theorem covF_mem : ∀ f I J x, 1 ≤ I → x ∈ covF f I J → 1 ≤ x ∧ x < J
  | 0, _, _, _, _, h => by simp [covF] at h
  | f + 1, I, J, x, hI, h => by
    rw [covF] at h
    split at h
    · rename_i hlt
      rw [List.mem_append] at h
      rcases h with h | h
      · simp only [headF, List.mem_append] at h
        rcases h with h | h
        · split at h
          · simp at h; omega
          · simp at h
        · split at h
          · simp at h; omega
          · simp at h
      · have := covF_mem f ((I + 1) / 2) (J / 2) x (by omega) h
        omega
    · simp at h

theorem sum_append (l m : List Nat) : (l ++ m).sum = l.sum + m.sum := by simp
theorem sum_congr {α : Type} (l : List α) (f g : α → Nat) (h : ∀ x ∈ l, f x = g x) : (l.map f).sum = (l.map g).sum := by
  rw [List.map_congr_left h]

/-- EACH COLUMN OF THE RUN HAS ONE NODE ON ITS CHAIN, THE OTHERS NONE. -/
theorem cov_sum : ∀ f I J y k, J ≤ f → y ≤ k → 1 ≤ I → y < 2 * I → J ≤ 2 * y + 1 → ((covF f I J).map (cc k y)).sum = if I ≤ y ∧ y < J then 1 else 0
  | 0, I, J, y, k, hJ, _, _, _, _ => by
    rw [covF, if_neg (by omega)]; rfl
  | f + 1, I, J, y, k, hJ, hk, hI, h1, h2 => by
    rw [covF]
    split
    · rename_i hlt
      have hy : 1 ≤ y := by omega
      obtain ⟨k', rfl⟩ : ∃ k', k = k' + 1 := ⟨k - 1, by omega⟩
      rw [List.map_append, sum_append]
      have hA : ∀ x, I ≤ x → cc (k' + 1) y x = if x = y then 1 else 0 := fun x hx => by
        rw [cc, if_pos hy, cc_zero x k' (y / 2) (by omega)]; rfl
      have hB : ((covF f ((I + 1) / 2) (J / 2)).map (cc (k' + 1) y)).sum = ((covF f ((I + 1) / 2) (J / 2)).map (cc k' (y / 2))).sum := by
        apply sum_congr
        intro x hx
        have := covF_mem f ((I + 1) / 2) (J / 2) x (by omega) hx
        rw [cc, if_pos hy, if_neg (by omega), Nat.zero_add]
      rw [hB, cov_sum f ((I + 1) / 2) (J / 2) (y / 2) k' (by omega) (by omega) (by omega) (by omega) (by omega)]
      have hH : ((headF I J).map (cc (k' + 1) y)).sum = (if I % 2 = 1 ∧ I = y then 1 else 0) + (if J % 2 = 1 ∧ J - 1 = y then 1 else 0) := by
        simp only [headF, List.map_append, sum_append]
        congr 1
        · by_cases e : I % 2 = 1
          · simp [e, hA I (Nat.le_refl _)]
          · simp [e]
        · by_cases e : J % 2 = 1
          · simp [e, hA (J - 1) (by omega)]
          · simp [e]
      rw [hH]
      repeat' split
      all_goals omega
    · rename_i hlt
      rw [if_neg (by omega)]; rfl

theorem count_sum (v : Nat) : ∀ log : List Nat, log.count v = (log.map fun x => if x = v then 1 else 0).sum
  | [] => rfl
  | x :: l => by
    rw [List.count_cons, count_sum v l, List.map_cons, List.sum_cons]
    by_cases e : x = v
    · simp [e, Nat.add_comm]
    · simp [e]

theorem map_add_sum {α : Type} (f g : α → Nat) : ∀ l : List α, (l.map fun x => f x + g x).sum = (l.map f).sum + (l.map g).sum
  | [] => rfl
  | x :: l => by simp only [List.map_cons, List.sum_cons, map_add_sum f g l]; omega

/-- The sum of the counts over a chain is the sum over the log. -/
theorem chs_eq (log : List Nat) : ∀ f v, chs (fun u => log.count u) f v = (log.map (cc f v)).sum
  | 0, v => by
    rw [chs]
    induction log with
    | nil => rfl
    | cons x l ih => rw [List.map_cons, List.sum_cons, ← ih]; rfl
  | f + 1, v => by
    rw [chs]
    by_cases h : 1 ≤ v
    · rw [if_pos h, chs_eq log f (v / 2), count_sum, ← map_add_sum]
      apply sum_congr
      intro x _
      rw [cc, if_pos h]
    · rw [if_neg h]
      have : ∀ x ∈ log, cc (f + 1) v x = (fun _ => 0) x := fun x _ => by rw [cc, if_neg h]
      rw [sum_congr log _ _ this]
      clear this
      induction log with
      | nil => rfl
      | cons x l ih => rw [List.map_cons, List.sum_cons, ← ih]
end Go.Proofs.Ybulkqnq

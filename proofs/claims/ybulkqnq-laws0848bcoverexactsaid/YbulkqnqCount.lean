/-
  The plain law on the log: each column has on its chain as many visits as runs hold it.
-/
import Derived.Test.YbulkqnqCover
namespace Go.Proofs.Ybulkqnq
open Go.RowKit

/-- How many of the first r runs hold x. -/
def holdN (R : Nat → Int × Int) (x : Int) : Nat → Nat
  | 0 => 0
  | r + 1 => holdN R x r + (if (R r).1 ≤ x ∧ x ≤ (R r).2 then 1 else 0)
theorem holdN_le (R : Nat → Int × Int) (x : Int) : ∀ r, holdN R x r ≤ r
  | 0 => Nat.le_refl _
  | r + 1 => by
    have := holdN_le R x r
    rw [holdN]
    split <;> omega

theorem logged_sum {zs : List Int} {R : Nat → Int × Int} {m : Nat} {log : List Nat} (h : Logged zs R m log) (t k : Nat) (ht : t < zs.length) (hk : t + zs.length ≤ k) :
    (log.map (cc k (t + zs.length))).sum = holdN R (zs.getD t 0) m := by
  induction h with
  | nil => rfl
  | step h hb ih =>
    rename_i r log i j
    rw [List.map_append, sum_append, ih, cov_sum _ _ _ _ _ (Nat.le_refl _) hk (by omega) (by omega) (by have := hb.2.1; omega), holdN]
    have := hb.2.2 t ht
    by_cases e : i ≤ t ∧ t < j
    · rw [if_pos (by omega), if_pos (this.1 e)]
    · rw [if_neg (by omega), if_neg (fun x => e (this.2 x))]
theorem logged_mem {zs : List Int} {R : Nat → Int × Int} {m : Nat} {log : List Nat} (h : Logged zs R m log) : ∀ x ∈ log, 1 ≤ x ∧ x < 2 * zs.length := by
  induction h with
  | nil => intro x hx; simp at hx
  | step h hb ih =>
    rename_i r log i j
    intro x hx
    rw [List.mem_append] at hx
    rcases hx with hx | hx
    · exact ih x hx
    · by_cases hz : zs.length = 0
      · have h1 := hb.1
        have h2 := hb.2.1
        obtain rfl : i = 0 := by omega
        obtain rfl : j = 0 := by omega
        rw [hz] at hx
        simp [covF] at hx
      · have := covF_mem _ _ _ x (by omega) hx
        have h2 := hb.2.1
        omega
/-- The law. -/
theorem chain_law {zs : List Int} {R : Nat → Int × Int} {m : Nat} {log : List Nat} (h : Logged zs R m log) (t k : Nat) (ht : t < zs.length) (hk : t + zs.length ≤ k) :
    chs (fun u => log.count u) k (t + zs.length) = holdN R (zs.getD t 0) m := by
  rw [chs_eq, logged_sum h t k ht hk]
end Go.Proofs.Ybulkqnq

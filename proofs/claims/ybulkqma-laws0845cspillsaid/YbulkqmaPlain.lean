/-
  Plain laws on texts in order: neighbours in order, all pairs in order.
-/
import GoSem.Op.String
import Derived.Laws.Strings
namespace Go.Proofs.Ybulkqma

theorem bl_irrefl : ∀ x : List UInt8, Op.bytesLess x x = false
  | [] => rfl
  | a :: x => by simp [Op.bytesLess, bl_irrefl x]

theorem bl_trans : ∀ x y z : List UInt8, Op.bytesLess x y = true → Op.bytesLess y z = true → Op.bytesLess x z = true
  | _, [], _, h, _ => by simp [Op.bytesLess] at h
  | _, _ :: _, [], _, h => by simp [Op.bytesLess] at h
  | [], _ :: _, _ :: _, _, _ => rfl
  | a :: x, b :: y, c :: z, h1, h2 => by
    simp only [Op.bytesLess, Bool.or_eq_true, decide_eq_true_eq, Bool.and_eq_true, beq_iff_eq] at h1 h2 ⊢
    rcases h1 with h1 | ⟨rfl, h1⟩
    · rcases h2 with h2 | ⟨rfl, h2⟩
      · left; rw [UInt8.lt_iff_toNat_lt] at *; omega
      · exact .inl h1
    · rcases h2 with h2 | ⟨rfl, h2⟩
      · exact .inl h2
      · exact .inr ⟨rfl, bl_trans x y z h1 h2⟩

theorem bl_total : ∀ x y : List UInt8, Op.bytesLess x y = false → x = y ∨ Op.bytesLess y x = true
  | [], [], _ => .inl rfl
  | _ :: _, [], _ => .inr rfl
  | [], _ :: _, h => by simp [Op.bytesLess] at h
  | a :: x, b :: y, h => by
    simp only [Op.bytesLess, Bool.or_eq_false_iff, decide_eq_false_iff_not, Bool.and_eq_false_iff] at h
    obtain ⟨h1, h2⟩ := h
    by_cases e : a = b
    · subst e
      have h3 : Op.bytesLess x y = false := by
        rcases h2 with h2 | h2
        · simp at h2
        · exact h2
      rcases bl_total x y h3 with h4 | h4
      · exact .inl (by rw [h4])
      · right; simp [Op.bytesLess, h4]
    · right
      have : b < a := by
        rw [UInt8.lt_iff_toNat_lt] at *
        have : a.toNat ≠ b.toNat := fun h => e (UInt8.toNat_inj.1 h)
        omega
      simp [Op.bytesLess, this]

/-- 'a <= b' on texts, as the walk writes it. -/
def leB (a b : ByteArray) : Bool := Op.bytesLess a.toList b.toList || a.toList == b.toList
def ltB (a b : ByteArray) : Bool := Op.bytesLess a.toList b.toList

theorem leB_not (a b : ByteArray) : leB a b = !(ltB b a) := by
  unfold leB ltB
  cases h : Op.bytesLess b.toList a.toList with
  | true =>
    have h1 : Op.bytesLess a.toList b.toList = false := by
      cases h2 : Op.bytesLess a.toList b.toList with
      | false => rfl
      | true => have := bl_trans _ _ _ h2 h; rw [bl_irrefl] at this; cases this
    have h3 : (a.toList == b.toList) = false := by
      cases h4 : a.toList == b.toList with
      | false => rfl
      | true =>
        have e : a.toList = b.toList := by simpa using h4
        rw [e, bl_irrefl] at h; cases h
    simp [h1, h3]
  | false =>
    rcases bl_total _ _ h with e | e
    · simp [e]
    · simp [e]

/-- What 'ordered' says behind k keys. -/
def ordK (S : Nat → ByteArray) : Nat → Bool
  | 0 => true
  | k + 1 => ordK S k && !(decide (0 < k) && leB (S k) (S (k - 1)))

/-- Key i ahead of the next m keys. -/
def rowB (S : Nat → ByteArray) (i : Nat) : Nat → Bool
  | 0 => true
  | m + 1 => rowB S i m && ltB (S i) (S (i + 1 + m))
/-- The first i keys each ahead of all that follow, of n. -/
def wantB (S : Nat → ByteArray) (n : Nat) : Nat → Bool
  | 0 => true
  | i + 1 => wantB S n i && rowB S i (n - 1 - i)

theorem ordK_iff (S : Nat → ByteArray) : ∀ k, ordK S k = true ↔ ∀ i, i + 1 < k → ltB (S i) (S (i + 1)) = true
  | 0 => by simp [ordK]
  | k + 1 => by
    rw [ordK, Bool.and_eq_true, ordK_iff S k]
    cases k with
    | zero => simp
    | succ k =>
      simp only [Nat.zero_lt_succ, decide_true, Bool.true_and, Nat.add_sub_cancel, leB_not, Bool.not_not]
      constructor
      · rintro ⟨h1, h2⟩ i hi
        by_cases e : i = k
        · subst e; exact h2
        · exact h1 i (by omega)
      · intro h
        exact ⟨fun i hi => h i (by omega), h k (by omega)⟩

theorem rowB_iff (S : Nat → ByteArray) (i : Nat) : ∀ m, rowB S i m = true ↔ ∀ j, j < m → ltB (S i) (S (i + 1 + j)) = true
  | 0 => by simp [rowB]
  | m + 1 => by
    rw [rowB, Bool.and_eq_true, rowB_iff S i m]
    constructor
    · rintro ⟨h1, h2⟩ j hj
      by_cases e : j = m
      · subst e; exact h2
      · exact h1 j (by omega)
    · intro h
      exact ⟨fun j hj => h j (by omega), h m (by omega)⟩

theorem wantB_iff (S : Nat → ByteArray) (n : Nat) : ∀ i, wantB S n i = true ↔ ∀ a, a < i → ∀ j, j < n - 1 - a → ltB (S a) (S (a + 1 + j)) = true
  | 0 => by simp [wantB]
  | i + 1 => by
    rw [wantB, Bool.and_eq_true, wantB_iff S n i, rowB_iff]
    constructor
    · rintro ⟨h1, h2⟩ a ha
      by_cases e : a = i
      · subst e; exact h2
      · exact h1 a (by omega)
    · intro h
      exact ⟨fun a ha => h a (by omega), h i (by omega)⟩

theorem ltB_trans {a b c : ByteArray} (h : ltB a b = true) (h' : ltB b c = true) : ltB a c = true := bl_trans _ _ _ h h'

/-- NEIGHBOURS IN ORDER: ALL PAIRS IN ORDER. -/
theorem ordK_eq (S : Nat → ByteArray) (n : Nat) : ordK S n = wantB S n n := by
  rw [Bool.eq_iff_iff, ordK_iff, wantB_iff]
  constructor
  · intro h a ha j
    induction j with
    | zero => intro hj; exact h a (by omega)
    | succ j ih => intro hj; exact ltB_trans (ih (by omega)) (h (a + 1 + j) (by omega))
  · intro h i hi
    exact h i (by omega) 0 (by omega)

/-- The first i keys done, and m of key i's. -/
def pairB (S : Nat → ByteArray) (n i m : Nat) : Bool := wantB S n i && rowB S i m
theorem pairB_zero (S : Nat → ByteArray) (n i : Nat) : pairB S n i 0 = wantB S n i := by simp [pairB, rowB]
theorem pairB_all (S : Nat → ByteArray) (n i : Nat) : pairB S n i (n - 1 - i) = wantB S n (i + 1) := rfl
theorem pairB_yes (S : Nat → ByteArray) (n i m : Nat) (h : ltB (S i) (S (i + 1 + m)) = true) : pairB S n i (m + 1) = pairB S n i m := by simp [pairB, rowB, h]
theorem pairB_no (S : Nat → ByteArray) (n i m : Nat) (h : ltB (S i) (S (i + 1 + m)) = false) : pairB S n i (m + 1) = false := by simp [pairB, rowB, h]
end Go.Proofs.Ybulkqma

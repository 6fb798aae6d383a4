/-
  coverRow with the visit that logs.
-/
import Derived.Test.YbulkqnqVisit
namespace Go.Proofs.Ybulkqnq
open Go.RowKit

/-- The visit as a value. -/
abbrev vis (lb : Nat) : Value := .func (.func 8) #[] #[.pointer (some ⟨lb, 0, none⟩)]

theorem covF_len : ∀ f I J, (covF f I J).length ≤ 2 * f
  | 0, _, _ => by simp [covF]
  | f + 1, I, J => by
    rw [covF]
    split
    · have := covF_len f ((I + 1) / 2) (J / 2)
      have h : (headF I J).length ≤ 2 := by
        rw [headF]
        split <;> split <;> simp
      rw [List.length_append]
      omega
    · simp

def RowPost (lb B n i j : Nat) (log : List Nat) (w : World) (e : Ending) (w' : World) : Prop :=
  e = .returned (.int .i64 ((covF (j + n) (i + n) (j + n)).length : Nat)) ∧ Log lb B w' (log ++ covF (j + n) (i + n) (j + n)) ∧ Kept (LogS lb B) w w'

/-- Where a round stands: 'done' is visited, the rest is to come. -/
structure RInv (lb B F I0 J0 : Nat) (log : List Nat) (w : World) (I J fuel : Nat) (done : List Nat) (wr : World) : Prop where
  rest : covF F I0 J0 = done ++ covF fuel I J
  enough : J ≤ fuel
  len : done.length + 2 * fuel ≤ 2 * F
  lg : Log lb B wr (log ++ done)
  kept : Kept (LogS lb B) w wr

theorem headF_len (I J : Nat) : (headF I J).length ≤ 2 := by
  rw [headF]
  split <;> split <;> simp
theorem RInv.next {lb B F I0 J0 I J fuel : Nat} {log done : List Nat} {w wr w2 : World} (h : RInv lb B F I0 J0 log w I J fuel done wr) (hlt : I < J)
    (l : List Nat) (hl : headF I J = l) (hL : Log lb B w2 (log ++ (done ++ l))) (hk : Kept (LogS lb B) wr w2) : RInv lb B F I0 J0 log w ((I + 1) / 2) (J / 2) (fuel - 1) (done ++ l) w2 := by
  subst hl
  have he := h.enough
  have hlen := h.len
  have hh := headF_len I J
  obtain ⟨f, rfl⟩ : ∃ f, fuel = f + 1 := ⟨fuel - 1, by omega⟩
  refine ⟨?_, by simp; omega, by simp; omega, hL, h.kept.trans hk⟩
  rw [h.rest, covF, if_pos hlt, List.append_assoc]
  rfl

theorem visit_int (lb B : Nat) (log : List Nat) (x : Nat) (X : Int) (hx : X = (x : Int)) (w : World) (h : Log lb B w log) (hlen : log.length ≤ 1000000) :
    Calls Yba.prog 8 #[.int .i64 X, .pointer (some ⟨lb, 0, none⟩)] w fun e w' => e = .returned (.tuple #[]) ∧ Log lb B w' (log ++ [x]) ∧ Kept (LogS lb B) w w' := by
  subst hx
  exact visit_any lb B log x w h hlen

set_option maxHeartbeats 2000000 in
theorem row_any (lb B n i j : Nat) (log : List Nat) (w : World) (h : Log lb B w log) (hn : n ≤ 256) (hi : i ≤ n) (hj : j ≤ n) (hlen : log.length ≤ 900000) :
    Calls Yba.prog 12 #[.int .i64 n, .int .i64 i, .int .i64 j, vis lb] w (RowPost lb B n i j log w) := by
  have HP : Hid (∀ e w', (e = Ending.returned (.int .i64 ((covF (j + n) (i + n) (j + n)).length : Nat)) ∧ Log lb B w' (log ++ covF (j + n) (i + n) (j + n)) ∧ Kept (LogS lb B) w w') → RowPost lb B n i j log w e w') := fun e w' h => h
  generalize RowPost lb B n i j log w = P at *
  go_enter Yba.func12, Yba.ntmps12
  go_wp2
  go_loopw [1, 2, 9] (fun a b c wr => ∃ (I J fuel : Nat) (done : List Nat), a = .int .i64 I ∧ b = .int .i64 J ∧ c = .int .i64 done.length ∧ I ≤ 512 ∧ J ≤ 512 ∧ Hid (RInv lb B (j + n) (i + n) (j + n) log w I J fuel done wr)) (fun _ b _ _ => (intOf b).toNat)
  case atStart => exact ⟨i + n, j + n, j + n, [], by go_num, by go_num, rfl, by omega, by omega, ⟨rfl, Nat.le_refl _, by simp, by simpa using h, Kept.refl _ _⟩⟩
  case round =>
    clear h
    obtain ⟨I, J, fuel, done, rfl, rfl, rfl, hI, hJ, HR⟩ := hrel
    have hdl : done.length ≤ 1100 := by have := HR.out.len; omega
    by_cases hlt : I < J
    · by_cases h1 : I % 2 = 1
      · have hv := visit_any lb B (log ++ done) I wr HR.out.lg (by simp; omega)
        by_cases h2 : J % 2 = 1
        · go_wp2_with fail
          refine hv.mono ?_
          rintro e w1 ⟨rfl, hL1, hK1⟩
          go_wp2_with fail
          refine (visit_int lb B (log ++ done ++ [I]) (J - 1) _ (by omega) w1 hL1 (by simp; omega)).mono ?_
          rintro e w2 ⟨rfl, hL2, hK2⟩
          have HN := HR.out.next hlt [I, J - 1] (by simp [headF, h1, h2]) (by simpa using hL2) (hK1.trans hK2)
          clear hL1 hK1 hL2 hK2 hv
          go_wp2
          go_roundw
          case rel => exact ⟨_, _, _, _, by go_num, by go_num, by first | (simp; done) | go_num, by omega, by omega, HN⟩
          case measure => simp [intOf]; omega
        · go_wp2_with fail
          refine hv.mono ?_
          rintro e w1 ⟨rfl, hL1, hK1⟩
          have HN := HR.out.next hlt [I] (by simp [headF, h1, h2]) (by simpa using hL1) hK1
          clear hL1 hK1 hv
          go_wp2
          go_roundw
          case rel => exact ⟨_, _, _, _, by go_num, by go_num, by first | (simp; done) | go_num, by omega, by omega, HN⟩
          case measure => simp [intOf]; omega
      · by_cases h2 : J % 2 = 1
        · go_wp2_with fail
          refine (visit_int lb B (log ++ done) (J - 1) _ (by omega) wr HR.out.lg (by simp; omega)).mono ?_
          rintro e w1 ⟨rfl, hL1, hK1⟩
          have HN := HR.out.next hlt [J - 1] (by simp [headF, h1, h2]) (by simpa using hL1) hK1
          clear hL1 hK1
          go_wp2
          go_roundw
          case rel => exact ⟨_, _, _, _, by go_num, by go_num, by first | (simp; done) | go_num, by omega, by omega, HN⟩
          case measure => simp [intOf]; omega
        · have HN := HR.out.next hlt [] (by simp [headF, h1, h2]) (by simpa using HR.out.lg) (Kept.refl _ _)
          go_wp2
          go_roundw
          case rel => exact ⟨_, _, _, _, by go_num, by go_num, by first | (simp; done) | go_num, by omega, by omega, HN⟩
          case measure => simp [intOf]; omega
    · have hcov : covF fuel I J = [] := by
        cases fuel with
        | zero => rfl
        | succ f => rw [covF, if_neg hlt]
      have hfin := HP.out
      have hr := HR.out.rest
      rw [hcov, List.append_nil] at hr
      have hL := HR.out.lg
      have hK := HR.out.kept
      rw [hr] at hfin
      have HF : Hid (∀ e w', (e = Ending.returned (.int .i64 (done.length : Nat)) ∧ Log lb B w' (log ++ done) ∧ Kept (LogS lb B) w w') → P e w') := hfin
      clear HP HR hr hfin
      go_wp2

      exact HF.out _ _ ⟨rfl, hL, hK⟩
end Go.Proofs.Ybulkqnq

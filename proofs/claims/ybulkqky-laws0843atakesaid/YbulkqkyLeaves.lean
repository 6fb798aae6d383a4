import Derived.Test.YbulkqkyRows
import Derived.WalkKit
import Derived.WalkLawsBesides
import Derived.Conc.LoneCalls
import Derived.LaidEqlPtr
import Derived.Deep.DeepFit
namespace Go.Proofs.Ybulkqky
open Go.RowKit Go.Conc

theorem bytes33 : ∃ i, Yba.prog.info? 33 = some i ∧ i.bytes = 0 := by
  have h : (Yba.prog.info? 33).map (·.bytes) = some 0 := by kernel_rfl
  obtain ⟨i, hi, hb⟩ := Option.map_eq_some_iff.1 h
  exact ⟨i, hi, hb⟩
theorem mk1 (w : World) : (Instr.makeChan 40 (.int .i64 1)).run Yba.prog w = .ok (.chan (some w.heap.size)) (w.alloc (.chan 1 #[] false 0 0 false)) := by
  obtain ⟨i, hi, hb⟩ := bytes33
  simpa using run_makeChan (P := Yba.prog) (w := w) Yba.underlying40 hi .i64 1 (by omega) (by rw [hb]; omega)

/-- 'newEndQueue()': the channel's block, then the queue's. -/
def fresh (w : World) : World := (w.alloc (.chan 1 #[] false 0 0 false)).alloc (.cells #[.int .i32 0, .int .u32 0, .slice none 0 0, .chan (some w.heap.size)] 42)

theorem new_any (w : World) : Calls Yba.prog 7 #[] w fun e w' => e = .returned (.pointer (some ⟨w.heap.size + 1, 0, none⟩)) ∧ w' = fresh w := by
  have hmc := mk1
  go_enter Yba.func7, Yba.ntmps7
  go_wp2
  go_ret
  exact ⟨by simp, rfl⟩

theorem below_allocs2 (w : World) (o1 o2 : Obj) : Below w.heap.size w ((w.alloc o1).alloc o2) :=
  ((Below.refl _ _).alloc (Nat.le_refl _) _).alloc (by simp) _
theorem below_allocs3 (w : World) (o1 o2 o3 : Obj) : Below w.heap.size w (((w.alloc o1).alloc o2).alloc o3) :=
  (below_allocs2 w o1 o2).alloc (by simp; omega) _
theorem below_allocs4 (w : World) (o1 o2 o3 o4 : Obj) : Below w.heap.size w ((((w.alloc o1).alloc o2).alloc o3).alloc o4) :=
  (below_allocs3 w o1 o2 o3).alloc (by simp; omega) _

set_option maxHeartbeats 800000 in
theorem make_any (p n s : ByteArray) (pid : Int) (hr : Bool) (rn : ByteArray) (rp rr : Int) (run : ByteArray) (w : World) :
    Calls Yba.prog 8 #[.agg #[.string p, .string n, .string s, .int .i64 pid, .bool hr, .string rn, .int .i64 rp, .int .i64 rr, .string run]] w fun e w' =>
      ∃ a : Option Addr, e = .returned (.agg #[.string p, .string n, .string s, .int .i64 pid, .pointer a, .string run]) ∧ Below w.heap.size w w' := by
  cases hr
  · go_enter Yba.func8, Yba.ntmps8
    go_wp2
    refine bodyPost_ret (v := .agg #[.string p, .string n, .string s, .int .i64 pid, .pointer none, .string run]) (by simp [results, Yba.results8, go_sem]) rfl ⟨none, rfl, ?_⟩
    exact below_allocs3 w _ _ _
  · go_enter Yba.func8, Yba.ntmps8
    go_wp2
    refine bodyPost_ret (v := .agg #[.string p, .string n, .string s, .int .i64 pid, .pointer (some ⟨w.heap.size + 3, 0, none⟩), .string run]) (by simp [results, Yba.results8, go_sem]) rfl ⟨_, rfl, ?_⟩
    exact below_allocs4 w _ _ _ _

theorem info55 : ∃ i, Yba.prog.info? 55 = some i := by
  have h : (Yba.prog.info? 55).isSome = true := by kernel_rfl
  exact Option.isSome_iff_exists.1 h
theorem eql_ptr (a : Option Addr) (w : World) : (binOp .eql 26 (.pointer a) (.pointer a)).run Yba.prog w = .ok (.bool true) w := by
  obtain ⟨i, hi⟩ := info55
  cases a with
  | some a => exact run_eql_ptr_same w a Yba.underlying26 hi
  | none => kernel_rfl

set_option maxHeartbeats 800000 in
theorem eq_any (p n s : ByteArray) (pid : Int) (a : Option Addr) (run : ByteArray) (w : World) :
    Calls Yba.prog 10 #[.agg #[.string p, .string n, .string s, .int .i64 pid, .pointer a, .string run], .agg #[.string p, .string n, .string s, .int .i64 pid, .pointer a, .string run]] w fun e w' =>
      e = .returned (.bool true) ∧ Below w.heap.size w w' := by
  have he := eql_ptr a
  go_enter Yba.func10, Yba.ntmps10
  go_wp2
  go_ret
  exact ⟨rfl, below_allocs2 w _ _⟩
end Go.Proofs.Ybulkqky

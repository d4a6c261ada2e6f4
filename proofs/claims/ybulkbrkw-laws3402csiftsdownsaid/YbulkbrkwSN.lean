/-
  The library's sort at []int16, turned from the guide's walks at []int (the same Go text at another element type): the arm of no element.
-/
import Derived.Test.YbulkbrkwSL
import Derived.Sort.WalkA14
namespace Go.Proofs.Ybulkbrkw
open Go.RowKit Go.Sort

theorem I16.insertionSort_int_nil (p : Option Addr) (cap : Nat) (w : World) :
    Calls Yba.prog 16 #[.slice p 0 cap, .int .i64 0, .int .i64 0] w fun e w' => e = .returned (.tuple #[]) ∧ w' = w := by
  go_enter Yba.func16, Yba.ntmps16
  go_wp2
  refine wp_loop_rounds 1 ?_
  rw [rounds_succ]
  go_wp2
  go_end0
  exact ⟨rfl, rfl⟩

set_option maxRecDepth 100000 in
theorem I16.pdqsort_int_nil (p : Option Addr) (cap : Nat) (w : World) :
    Calls Yba.prog 12 #[.slice p 0 cap, .int .i64 0, .int .i64 0, .int .i64 0] w fun e w' => e = .returned (.tuple #[]) ∧ w' = w := by
  go_enter Yba.func12, Yba.ntmps12
  go_wp2
  refine wp_loop_rounds 1 ?_
  rw [rounds_succ]
  go_wp2_with (first | (go_at_call 16; refine (I16.insertionSort_int_nil p cap _).mono ?_; rintro e w' ⟨rfl, rfl⟩))
  refine bodyPost_ret (results_none rfl _ _ _) rfl ?_      -- an explicit 'return' in a function without results
  exact ⟨rfl, rfl⟩

set_option maxRecDepth 100000 in
theorem I16.Sort_int_nil (p : Option Addr) (cap : Nat) (w : World) :
    Calls Yba.prog 5 #[.slice p 0 cap] w fun e w' => e = .returned (.tuple #[]) ∧ w' = w := by
  have hLen : ∀ w, Calls Yba.prog 13 #[.int .u64 0] w fun e w' => e = .returned (.int .i64 0) ∧ w' = w := fun w => I16.bits_Len 0 w (by omega) (by omega)
  go_enter Yba.func5, Yba.ntmps5
  go_wp2_with (first
    | (go_at_call 13; refine (hLen _).mono ?_; rintro e w' ⟨rfl, rfl⟩)
    | (go_at_call 12; refine (I16.pdqsort_int_nil p cap _).mono ?_; rintro e w' ⟨rfl, rfl⟩))
  go_end0
  exact ⟨rfl, rfl⟩

end Go.Proofs.Ybulkbrkw

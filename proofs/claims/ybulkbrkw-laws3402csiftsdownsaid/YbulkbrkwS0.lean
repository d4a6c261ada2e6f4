/-
  The library's sort at []int16, turned from the guide's walks at []int (the same Go text at another element type): cmp.isNaN, cmp.Less.
-/
import Derived.Test.YbulkbrkwRows
import Derived.Sort.Walk0
namespace Go.Proofs.Ybulkbrkw

set_option maxHeartbeats 1000000 in
theorem I16.cmp_isNaN_int (x : Int) (w : World) : Calls Yba.prog 41 #[.int .i16 x] w fun e w' => e = .returned (.bool false) ∧ w' = w := by
  go_enter Yba.func41, Yba.ntmps41
  go_wp2
  go_ret
  exact ⟨by simp, rfl⟩

set_option maxHeartbeats 1000000 in
theorem I16.cmp_Less_int (x y : Int) (w : World) : Calls Yba.prog 22 #[.int .i16 x, .int .i16 y] w fun e w' => e = .returned (.bool (Sort.ltInt x y)) ∧ w' = w := by
  go_enter Yba.func22, Yba.ntmps22
  go_wp2_with (go_at_call 41; refine (I16.cmp_isNaN_int _ _).mono ?_; rintro e w' ⟨rfl, rfl⟩)
  go_ret
  exact ⟨rfl, rfl⟩

end Go.Proofs.Ybulkbrkw

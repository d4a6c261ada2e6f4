/-
  The contract of '(decimal.Decimal).parts': what it returns of a Decimal with a big.Rat and of one without.
-/
import Derived.Test.YbulkbrkiRows
import Derived.WalkKit
import Derived.ProofKit
import Derived.OpenShut
import Derived.ShutString
import Derived.RegionTactic
import Derived.Handy
namespace Go.Proofs.Ybulkbrki.Parts
open Go.ChangeShapes Go.WideShapes Go.ChangeAt Go.RowKit

theorem Grown.trans {a b c : World} (h : Grown a b) (k : Grown b c) : Grown a c := by
  obtain ⟨⟨h1, h2, h3⟩, h4, h5⟩ := h
  obtain ⟨⟨k1, k2, k3⟩, k4, k5⟩ := k
  exact ⟨World.keptBut_trans ⟨h1, h2, h3⟩ ⟨k1, k2, k3⟩, fun x => (k4 x).trans (h4 x), Nat.le_trans h5 k5⟩

theorem held (n d : Int) (p : Addr) (w : World) :
    Calls Yba.prog 11 #[.agg #[.int .i64 n, .int .i64 d, .pointer (some p)]] w fun e w' => e = .returned (.tuple #[.int .i64 0, .int .i64 0, .bool false]) ∧ Grown w w' := by
  go_enter Yba.func11, Yba.ntmps11
  go_wp2
  go_ret3
  exact ⟨rfl, by repeat (first | exact Grown.refl _ | apply Grown.drew | apply Grown.alloc)⟩

theorem low (n d : Int) (w : World) (h : d < 1) :
    Calls Yba.prog 11 #[.agg #[.int .i64 n, .int .i64 d, .pointer none]] w fun e w' => e = .returned (.tuple #[.int .i64 n, .int .i64 1, .bool true]) ∧ Grown w w' := by
  go_enter Yba.func11, Yba.ntmps11
  go_wp2
  go_region
  all_goals (go_wp2; go_ret3)
  all_goals exact ⟨rfl, by repeat (first | exact Grown.refl _ | apply Grown.drew | apply Grown.alloc)⟩

theorem high (n d : Int) (w : World) (h : 1 ≤ d) :
    Calls Yba.prog 11 #[.agg #[.int .i64 n, .int .i64 d, .pointer none]] w fun e w' => e = .returned (.tuple #[.int .i64 n, .int .i64 d, .bool true]) ∧ Grown w w' := by
  go_enter Yba.func11, Yba.ntmps11
  go_wp2
  go_region
  all_goals (go_wp2; go_ret3)
  all_goals exact ⟨rfl, by repeat (first | exact Grown.refl _ | apply Grown.drew | apply Grown.alloc)⟩

/-- The same three, with 'Below' for the world. -/
theorem heldB (n d : Int) (p : Addr) (w : World) :
    Calls Yba.prog 11 #[.agg #[.int .i64 n, .int .i64 d, .pointer (some p)]] w fun e w' => e = .returned (.tuple #[.int .i64 0, .int .i64 0, .bool false]) ∧ Below w.heap.size w w' := by
  go_enter Yba.func11, Yba.ntmps11
  go_wp2
  go_ret3
  exact ⟨rfl, by go_grown⟩

theorem highB (n d : Int) (w : World) (h : 1 ≤ d) :
    Calls Yba.prog 11 #[.agg #[.int .i64 n, .int .i64 d, .pointer none]] w fun e w' => e = .returned (.tuple #[.int .i64 n, .int .i64 d, .bool true]) ∧ Below w.heap.size w w' := by
  go_enter Yba.func11, Yba.ntmps11
  go_wp2
  go_region
  all_goals (go_wp2; go_ret3)
  all_goals exact ⟨rfl, by go_grown⟩
end Go.Proofs.Ybulkbrki.Parts

/-
  The library's sort at []int16, turned from the guide's walks at []int (the same Go text at another element type): the assembly.
-/
import Derived.Test.YbulkbrkwSA
import Derived.Test.YbulkbrkwS6
import Derived.Test.YbulkbrkwSC
import Derived.Test.YbulkbrkwSC4
import Derived.Test.YbulkbrkwS7
import Derived.Test.YbulkbrkwS11
import Derived.Test.YbulkbrkwS13
import Derived.Test.YbulkbrkwSW
import Derived.Test.YbulkbrkwSN
import Derived.Sort.AssemblyPlain
namespace Go.Proofs.Ybulkbrkw
open Go.RowKit Go.Sort

theorem calleesH : CalleesH where
  ins := I16.insertionSort_int
  brk := I16.breakPatterns_int
  piv := I16.choosePivot_int
  par := I16.partialInsertionSort_int
  peq := I16.partitionEqualOrdered_int
  prt := I16.partitionOrdered_int

theorem plainH : Plain13 where
  swo := swo_ltInt
  ins := insertionSort_holds
  par := partialInsertionSort_holds
  prt := partition_holds _
  peq := partitionEqual_holds _
  pdq := pdq_sorts _

theorem pdqWalkHolds : pdqWalkH := fun blk off cap a b limit d w hH hb hab hbd hsz hl hB =>
  I16.pdqsort_int calleesH plainH (b - a + 1) blk off cap a b limit d w (by omega) hH hb hab hbd hsz hl hB

/-- slices.Sort at []int16. -/
theorem I16.slices_Sort (blk off cap : Nat) (zs : List Int) (w : World) (hH : Holds (Value.int .i16) w blk off zs.toArray) (hblk : blk < w.heap.size) (hsz : zs.length < 4611686018427387904) :
    Calls Yba.prog 5 #[.slice (some ⟨blk, off, none⟩) zs.length cap] w fun e w' =>
      e = .returned (.tuple #[]) ∧ ∃ n os, w' = grow (putRow (Value.int .i16) (Sort.ahead w n) blk off (zs.mergeSort fun x y => decide (x ≤ y)).toArray) os := by
  have h := I16.Sort_int pdqWalkHolds blk off cap zs.toArray w hH hblk (by simpa using hsz)
  rw [show sort ltInt zs.toArray = (zs.mergeSort fun x y => decide (x ≤ y)).toArray by rw [← sortInt zs]] at h
  exact h

end Go.Proofs.Ybulkbrkw

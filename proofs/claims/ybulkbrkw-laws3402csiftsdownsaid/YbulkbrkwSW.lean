/-
  The library's sort at []int16, turned from the guide's walks at []int (the same Go text at another element type): slices.Sort over pdqsortOrdered.
-/
import Derived.Test.YbulkbrkwSL
import Derived.Sort.WalkA14
namespace Go.Proofs.Ybulkbrkw
open Go.RowKit Go.Sort

def pdqWalkH : Prop := ∀ (blk off cap a b limit : Nat) (d : Array Int) (w : World), Holds (Value.int .i16) w blk off d → blk < w.heap.size → a ≤ b → b ≤ d.size → d.size < 4611686018427387904 → limit < 4611686018427387904 → Below ltInt a b d →
  Calls Yba.prog 12 #[.slice (some ⟨blk, off, none⟩) d.size cap, .int .i64 a, .int .i64 b, .int .i64 limit] w fun e w' =>
    e = .returned (.tuple #[]) ∧ ∃ n os, w' = grow (putRow (Value.int .i16) (Sort.ahead w n) blk off (Sort.pdq ltInt d a b limit true true)) os

set_option maxRecDepth 100000 in
theorem I16.Sort_int (hpdq : pdqWalkH) (blk off cap : Nat) (d : Array Int) (w : World) (hH : Holds (Value.int .i16) w blk off d) (hblk : blk < w.heap.size) (hsz : d.size < 4611686018427387904) :
    Calls Yba.prog 5 #[.slice (some ⟨blk, off, none⟩) d.size cap] w fun e w' => e = .returned (.tuple #[]) ∧ ∃ n os, w' = grow (putRow (Value.int .i16) (Sort.ahead w n) blk off (Sort.sort ltInt d)) os := by
  have HH : Hid (Holds (Value.int .i16) w blk off d) := hH
  clear hH
  have hLen : ∀ w, Calls Yba.prog 13 #[.int .u64 (d.size : Int)] w fun e w' => e = .returned (.int .i64 (bitsLen d.size : Nat)) ∧ w' = w := fun w => by
    have h := I16.bits_Len (d.size : Int) w (by omega) (by omega)
    rwa [Int.toNat_natCast, bitLen_eq _ (by omega)] at h
  have hk : bitsLen d.size ≤ 62 := (bitsLen_le_iff d.size 62).2 (by omega)
  go_enter Yba.func5, Yba.ntmps5
  go_wp2_with (first
    | (go_at_call 13; refine (hLen _).mono ?_; rintro e w' ⟨rfl, rfl⟩)
    | (go_at_call 12; refine (hpdq blk off cap 0 d.size (bitsLen d.size) d _ (by exact HH.out) (by exact hblk) (Nat.zero_le _) (Nat.le_refl _) hsz (by omega) (Or.inl rfl)).mono ?_; rintro e w' ⟨rfl, n, os, rfl⟩))
  go_end0
  exact ⟨rfl, n, os, rfl⟩

end Go.Proofs.Ybulkbrkw

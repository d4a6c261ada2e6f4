/-
  The contract of 'decimal.FromInt'.
-/
import Derived.Test.YbulkbrkiParts
import Derived.Handy
namespace Go.Proofs.Ybulkbrki.FromInt
open Go.ChangeShapes Go.WideShapes Go.ChangeAt Go.RowKit

theorem make1 : ∀ w, (Instr.makeSlice 59 (.int .i64 1) (.int .i64 1)).run Yba.prog w = .ok (.slice (some ⟨w.heap.size, 0, none⟩) 1 1) (w.alloc (.cells #[.int .u64 0] 79)) := fun _ => by kernel_rfl

theorem word (x : Int) (h : (x == 0) = false) (w : World) :
    Calls Yba.prog 27 #[.slice none 0 0, .int .u64 x] w fun e w' => e = .returned (.slice (some ⟨w.heap.size, 0, none⟩) 1 1) ∧ w' = w.alloc (.cells #[.int .u64 x] 79) := by
  have hmk := make1
  go_enter Yba.func27, Yba.ntmps27
  go_wp2
  go_ret
  exact ⟨rfl, rfl⟩

theorem uword (x : Int) (h : (x == 0) = false) (w : World) :
    Calls Yba.prog 28 #[.slice none 0 0, .int .u64 x] w fun e w' => e = .returned (.slice (some ⟨w.heap.size, 0, none⟩) 1 1) ∧ w' = w.alloc (.cells #[.int .u64 x] 79) := by
  go_enter Yba.func28, Yba.ntmps28
  go_wp2_with (go_at_call 27; refine (word _ h _).mono ?_; rintro e w' ⟨rfl, rfl⟩)
  go_ret
  exact ⟨rfl, rfl⟩

theorem plain (n : Int) (h : (n == -9223372036854775808) = false) (w : World) :
    Calls Yba.prog 12 #[.int .i64 n] w fun e w' => e = .returned (.agg #[.int .i64 n, .int .i64 1, .pointer none]) ∧ Below w.heap.size w w' := by
  go_enter Yba.func12, Yba.ntmps12
  go_wp2
  exact bodyPost_ret (v := .agg #[.int .i64 n, .int .i64 1, .pointer none]) (by simp [results, Yba.results12, go_sem]) rfl ⟨rfl, (Below.refl _ _).alloc (Nat.le_refl _) _⟩


theorem setInt (x : Int) (hx : x < 0) (hz : (IntKind.u64.wrap (wrap64 (-x)) == 0) = false) (b : Nat) (w : World) (h0 : w.cell? ⟨b, 0, none⟩ = some (.bool false)) (h1 : w.cell? ⟨b, 1, none⟩ = some (.slice none 0 0))
    (f0 : w.frozen? ⟨b, 0, none⟩ = false) (f1 : w.frozen? ⟨b, 1, none⟩ = false) (hb : b < w.heap.size) :
    Calls Yba.prog 26 #[.pointer (some ⟨b, 0, none⟩), .int .i64 x] w fun e w' => e = .returned (.pointer (some ⟨b, 0, none⟩)) ∧
      w' = ((w.setCell ⟨b, 1, none⟩ (.slice (some ⟨w.heap.size, 0, none⟩) 1 1)).setCell ⟨b, 0, none⟩ (.bool true)).alloc (.cells #[.int .u64 (IntKind.u64.wrap (wrap64 (-x)))] 79) := by
  go_enter Yba.func26, Yba.ntmps26
  go_wp2_with (first | (go_at_call 28; refine (uword _ hz _).mono ?_; rintro e w' ⟨rfl, rfl⟩))
  go_ret
  exact ⟨rfl, rfl⟩

theorem ratInt (x : Int) (hx : x < 0) (hz : (IntKind.u64.wrap (wrap64 (-x)) == 0) = false) (b : Nat) (w : World) (h0 : w.cell? ⟨b, 0, none⟩ = some (.bool false)) (h1 : w.cell? ⟨b, 1, none⟩ = some (.slice none 0 0))
    (h3 : w.cell? ⟨b, 3, none⟩ = some (.slice none 0 0))
    (f0 : w.frozen? ⟨b, 0, none⟩ = false) (f1 : w.frozen? ⟨b, 1, none⟩ = false) (f3 : w.frozen? ⟨b, 3, none⟩ = false) (hb : b < w.heap.size) :
    Calls Yba.prog 18 #[.pointer (some ⟨b, 0, none⟩), .int .i64 x] w fun e w' => e = .returned (.pointer (some ⟨b, 0, none⟩)) ∧ Below b w w' := by
  go_enter Yba.func18, Yba.ntmps18
  go_wp2_with (first | (go_at_call 27; refine (word _ (by decide) _).mono ?_; rintro e w' ⟨rfl, rfl⟩) | (go_at_call 26; refine (setInt _ hx hz _ _ h0 h1 f0 f1 hb).mono ?_; rintro e w' ⟨rfl, rfl⟩))
  go_ret
  refine ⟨rfl, ?_⟩
  go_grown

theorem least (n : Int) (hn : Hid ((n == -9223372036854775808) = true)) (hx : n < 0) (hz : (IntKind.u64.wrap (wrap64 (-n)) == 0) = false) (w : World) :
    Calls Yba.prog 12 #[.int .i64 n] w fun e w' => (∃ p, e = .returned (.agg #[.int .i64 0, .int .i64 0, .pointer (some p)])) ∧ Below w.heap.size w w' := by
  go_enter Yba.func12, Yba.ntmps12
  go_wp2_with (fail)
  · refine (ratInt n hx hz _ _ (by simp [go_sem]) (by simp [go_sem]) (by simp [go_sem]) (by simp [go_sem]) (by simp [go_sem]) (by simp [go_sem]) (by simp [go_sem])).mono ?_
    rintro e w1 ⟨rfl, hb⟩
    have c0 : w1.cell? ⟨w.heap.size, 0, none⟩ = some (.int .i64 0) := (hb.cell (by simp)).trans (by simp [go_sem])
    have c1 : w1.cell? ⟨w.heap.size, 1, none⟩ = some (.int .i64 0) := (hb.cell (by simp)).trans (by simp [go_sem])
    have c2 : w1.cell? ⟨w.heap.size, 2, none⟩ = some (.pointer none) := (hb.cell (by simp)).trans (by simp [go_sem])
    have f0 : w1.frozen? ⟨w.heap.size, 0, none⟩ = false := (hb.frozen (by simp)).trans (by simp [go_sem])
    have f1 : w1.frozen? ⟨w.heap.size, 1, none⟩ = false := (hb.frozen (by simp)).trans (by simp [go_sem])
    have f2 : w1.frozen? ⟨w.heap.size, 2, none⟩ = false := (hb.frozen (by simp)).trans (by simp [go_sem])
    go_wp2
    have hbw : Below w.heap.size w w1 := (((Below.refl _ _).alloc (Nat.le_refl _) _).alloc (by simp) _).trans (hb.mono (by simp))
    have hlt : w.heap.size < w1.heap.size := by have := hb.size; simp at this; omega
    refine bodyPost_ret (v := .agg #[.int .i64 0, .int .i64 0, .pointer (some ⟨w.heap.size + 1, 0, none⟩)]) (by simp [results, Yba.results12, go_sem, c0, c1, c2]) rfl ⟨⟨_, rfl⟩, ?_⟩
    go_grown
  · exfalso
    have := hn.out
    simp_all
end Go.Proofs.Ybulkbrki.FromInt

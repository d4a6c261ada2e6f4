/-
  The queue in memory: block N is the entry, block N + 1 the array of pointers, block N + 2 + i request number i.
-/
import Derived.Test.YbulkbrmmRows
import Derived.WalkKit
import Derived.ProofKit
import Derived.Handy
import Derived.RegionTactic
import Derived.OpenShut
import Derived.WalkSmall
import Derived.Lib.Builder
namespace Go.Proofs.Ybulkbrmm.Qu
open Go.ChangeShapes Go.WideShapes Go.ChangeAt Go.RowKit

/-- The pointer to request number i. -/
def ptr (N i : Nat) : Value := .pointer (some ⟨N + 2 + i, 0, none⟩)
def nul : Value := .pointer none
/-- f, but for v at k. -/
def upd (f : Nat → Value) (k : Nat) (v : Value) : Nat → Value := fun i => if i = k then v else f i
theorem upd_same (f : Nat → Value) (k : Nat) (v : Value) : upd f k v k = v := by unfold upd; rw [if_pos rfl]
theorem upd_other (f : Nat → Value) {k i : Nat} (v : Value) (h : i ≠ k) : upd f k v i = f i := by unfold upd; rw [if_neg h]

/-- WHAT LIES IN MEMORY: the entry's first and last; the array's c cells; of the first n requests prev and next. -/
structure Q (N c n : Nat) (w0 w : World) (F L : Value) (Ar Pv Nx : Nat → Value) : Prop where
  below : Below N w0 w
  size : N + 2 + n ≤ w.heap.size
  first : w.cell? ⟨N, 4, none⟩ = some F
  last : w.cell? ⟨N, 5, none⟩ = some L
  arr : ∀ i, i < c → w.cell? ⟨N + 1, i, none⟩ = some (Ar i)
  prev : ∀ i, i < n → w.cell? ⟨N + 2 + i, 3, none⟩ = some (Pv i)
  next : ∀ i, i < n → w.cell? ⟨N + 2 + i, 4, none⟩ = some (Nx i)
  free : ∀ b o, N ≤ b → b < N + 2 + n → w.frozen? ⟨b, o, none⟩ = false

theorem far {w : World} {a b : Addr} {v : Value} (h : a.block ≠ b.block ∨ a.off ≠ b.off) : (w.setCell a v).cell? b = w.cell? b :=
  World.cell?_setCell_other _ _ _ _ (fun e => by subst e; rcases h with h | h <;> exact h rfl)

section
variable {N c n : Nat} {w0 w : World} {F L : Value} {Ar Pv Nx : Nat → Value}

theorem Q.alloc (h : Q N c n w0 w F L Ar Pv Nx) (o : Obj) : Q N c n w0 (w.alloc o) F L Ar Pv Nx := by
  have hs := h.size
  have k : ∀ (b i : Nat), b < N + 2 + n → (w.alloc o).cell? ⟨b, i, none⟩ = w.cell? ⟨b, i, none⟩ := fun b i hb => World.cell?_alloc_lt _ _ _ (by show b < _; omega)
  refine ⟨h.below.alloc (by omega) o, by simp; omega, ?_, ?_, fun i hi => ?_, fun i hi => ?_, fun i hi => ?_, fun b i hb hb' => ?_⟩
  · rw [k _ _ (by omega)]; exact h.first
  · rw [k _ _ (by omega)]; exact h.last
  · rw [k _ _ (by omega)]; exact h.arr i hi
  · rw [k _ _ (by omega)]; exact h.prev i hi
  · rw [k _ _ (by omega)]; exact h.next i hi
  · rw [World.frozen?_alloc_old _ _ _ (by show b ≠ _; omega)]; exact h.free b i hb hb'
theorem Q.drew (h : Q N c n w0 w F L Ar Pv Nx) : Q N c n w0 w.drew F L Ar Pv Nx :=
  ⟨h.below.drew, h.size, h.first, h.last, h.arr, h.prev, h.next, h.free⟩
/-- A world in which the queue's blocks are as they were. -/
theorem Q.kept (h : Q N c n w0 w F L Ar Pv Nx) {w' : World} (hb : Below (N + 2 + n) w w') : Q N c n w0 w' F L Ar Pv Nx := by
  have hs := h.size
  refine ⟨h.below.trans (hb.mono (by omega)), Nat.le_trans hs hb.size, ?_, ?_, fun i hi => ?_, fun i hi => ?_, fun i hi => ?_, fun b i hb1 hb2 => ?_⟩
  · rw [hb.cell (by show N < _; omega)]; exact h.first
  · rw [hb.cell (by show N < _; omega)]; exact h.last
  · rw [hb.cell (by show N + 1 < _; omega)]; exact h.arr i hi
  · rw [hb.cell (by show N + 2 + i < _; omega)]; exact h.prev i hi
  · rw [hb.cell (by show N + 2 + i < _; omega)]; exact h.next i hi
  · rw [hb.frozen (by show b < _; omega)]; exact h.free b i hb1 hb2
theorem Q.setFirst (h : Q N c n w0 w F L Ar Pv Nx) (v : Value) : Q N c n w0 (w.setCell ⟨N, 4, none⟩ v) v L Ar Pv Nx := by
  refine ⟨h.below.setCell (Nat.le_refl _) v, by simpa [World.setCell] using h.size, World.cell?_setCell_same _ _ _ h.first, ?_, fun i hi => ?_, fun i hi => ?_, fun i hi => ?_, fun b i hb hb' => ?_⟩
  · rw [far (by simp)]; exact h.last
  · rw [far (.inl (by show N ≠ N + 1; omega))]; exact h.arr i hi
  · rw [far (.inl (by show N ≠ N + 2 + i; omega))]; exact h.prev i hi
  · rw [far (.inl (by show N ≠ N + 2 + i; omega))]; exact h.next i hi
  · rw [World.frozen?_setCell]; exact h.free b i hb hb'
theorem Q.setLast (h : Q N c n w0 w F L Ar Pv Nx) (v : Value) : Q N c n w0 (w.setCell ⟨N, 5, none⟩ v) F v Ar Pv Nx := by
  refine ⟨h.below.setCell (Nat.le_refl _) v, by simpa [World.setCell] using h.size, ?_, World.cell?_setCell_same _ _ _ h.last, fun i hi => ?_, fun i hi => ?_, fun i hi => ?_, fun b i hb hb' => ?_⟩
  · rw [far (by simp)]; exact h.first
  · rw [far (.inl (by show N ≠ N + 1; omega))]; exact h.arr i hi
  · rw [far (.inl (by show N ≠ N + 2 + i; omega))]; exact h.prev i hi
  · rw [far (.inl (by show N ≠ N + 2 + i; omega))]; exact h.next i hi
  · rw [World.frozen?_setCell]; exact h.free b i hb hb'
theorem Q.setArr (h : Q N c n w0 w F L Ar Pv Nx) (k : Nat) (hk : k < c) (v : Value) : Q N c n w0 (w.setCell ⟨N + 1, k, none⟩ v) F L (upd Ar k v) Pv Nx := by
  refine ⟨h.below.setCell (Nat.le_succ _) v, by simpa [World.setCell] using h.size, ?_, ?_, fun i hi => ?_, fun i hi => ?_, fun i hi => ?_, fun b i hb hb' => ?_⟩
  · rw [far (.inl (by show N + 1 ≠ N; omega))]; exact h.first
  · rw [far (.inl (by show N + 1 ≠ N; omega))]; exact h.last
  · by_cases e : i = k
    · subst e; rw [upd_same]; exact World.cell?_setCell_same _ _ _ (h.arr i hi)
    · rw [upd_other _ _ e, far (.inr (by show k ≠ i; omega))]; exact h.arr i hi
  · rw [far (.inl (by show N + 1 ≠ N + 2 + i; omega))]; exact h.prev i hi
  · rw [far (.inl (by show N + 1 ≠ N + 2 + i; omega))]; exact h.next i hi
  · rw [World.frozen?_setCell]; exact h.free b i hb hb'
theorem Q.setPrev (h : Q N c n w0 w F L Ar Pv Nx) (k : Nat) (hk : k < n) (v : Value) : Q N c n w0 (w.setCell ⟨N + 2 + k, 3, none⟩ v) F L Ar (upd Pv k v) Nx := by
  refine ⟨h.below.setCell (by show N ≤ N + 2 + k; omega) v, by simpa [World.setCell] using h.size, ?_, ?_, fun i hi => ?_, fun i hi => ?_, fun i hi => ?_, fun b i hb hb' => ?_⟩
  · rw [far (.inl (by show N + 2 + k ≠ N; omega))]; exact h.first
  · rw [far (.inl (by show N + 2 + k ≠ N; omega))]; exact h.last
  · rw [far (.inl (by show N + 2 + k ≠ N + 1; omega))]; exact h.arr i hi
  · by_cases e : i = k
    · subst e; rw [upd_same]; exact World.cell?_setCell_same _ _ _ (h.prev i hi)
    · rw [upd_other _ _ e, far (.inl (by show N + 2 + k ≠ N + 2 + i; omega))]; exact h.prev i hi
  · rw [far (.inr (by show 3 ≠ 4; omega))]; exact h.next i hi
  · rw [World.frozen?_setCell]; exact h.free b i hb hb'
theorem Q.setNext (h : Q N c n w0 w F L Ar Pv Nx) (k : Nat) (hk : k < n) (v : Value) : Q N c n w0 (w.setCell ⟨N + 2 + k, 4, none⟩ v) F L Ar Pv (upd Nx k v) := by
  refine ⟨h.below.setCell (by show N ≤ N + 2 + k; omega) v, by simpa [World.setCell] using h.size, ?_, ?_, fun i hi => ?_, fun i hi => ?_, fun i hi => ?_, fun b i hb hb' => ?_⟩
  · rw [far (.inl (by show N + 2 + k ≠ N; omega))]; exact h.first
  · rw [far (.inl (by show N + 2 + k ≠ N; omega))]; exact h.last
  · rw [far (.inl (by show N + 2 + k ≠ N + 1; omega))]; exact h.arr i hi
  · rw [far (.inr (by show 4 ≠ 3; omega))]; exact h.prev i hi
  · by_cases e : i = k
    · subst e; rw [upd_same]; exact World.cell?_setCell_same _ _ _ (h.next i hi)
    · rw [upd_other _ _ e, far (.inl (by show N + 2 + k ≠ N + 2 + i; omega))]; exact h.next i hi
  · rw [World.frozen?_setCell]; exact h.free b i hb hb'
/-- The same state, said otherwise. -/
theorem Q.congr (h : Q N c n w0 w F L Ar Pv Nx) {F' L' : Value} {Ar' Pv' Nx' : Nat → Value} (e1 : F = F') (e2 : L = L') (e3 : ∀ i, i < c → Ar i = Ar' i) (e4 : ∀ i, i < n → Pv i = Pv' i) (e5 : ∀ i, i < n → Nx i = Nx' i) : Q N c n w0 w F' L' Ar' Pv' Nx' :=
  ⟨h.below, h.size, e1 ▸ h.first, e2 ▸ h.last, fun i hi => by rw [← e3 i hi]; exact h.arr i hi, fun i hi => by rw [← e4 i hi]; exact h.prev i hi, fun i hi => by rw [← e5 i hi]; exact h.next i hi, h.free⟩
end

/-! ### THE CHECK -/
/-- The pointer to the k-th of the m wanted ones; nil behind the last. -/
def posn (N m : Nat) (W : Nat → Nat) (k : Nat) : Value := if k < m then ptr N (W k) else nul
/-- The pointer to the one ahead of the k-th. -/
def bef (N : Nat) (W : Nat → Nat) (k : Nat) : Value := if k = 0 then nul else ptr N (W (k - 1))
/-- THE QUEUE HOLDS EXACTLY THESE, linked both ways. -/
structure Linked (N c m : Nat) (W : Nat → Nat) (F L : Value) (Pv Nx : Nat → Value) : Prop where
  lt : ∀ k, k < m → W k < c
  first : F = posn N m W 0
  last : L = bef N W m
  prev : ∀ k, k < m → Pv (W k) = bef N W k
  next : ∀ k, k < m → Nx (W k) = posn N m W (k + 1)

theorem posn_lt {N m : Nat} {W : Nat → Nat} {k : Nat} (h : k < m) : posn N m W k = .pointer (some ⟨N + 2 + W k, 0, none⟩) := by unfold posn; rw [if_pos h]; rfl
theorem posn_end {N m : Nat} {W : Nat → Nat} {k : Nat} (h : ¬ k < m) : posn N m W k = .pointer none := by unfold posn; rw [if_neg h]; rfl
theorem bef_zero {N : Nat} {W : Nat → Nat} : bef N W 0 = .pointer none := rfl
theorem bef_succ {N : Nat} {W : Nat → Nat} {k : Nat} : bef N W (k + 1) = .pointer (some ⟨N + 2 + W k, 0, none⟩) := by unfold bef; rw [if_neg (by omega)]; rfl

theorem info36 : ∃ i, Yba.prog.info? 36 = some i := Option.isSome_iff_exists.1 (by kernel_rfl)
theorem same27 (a : Addr) (w : World) : (binOp .neq 27 (.pointer (some a)) (.pointer (some a))).run Yba.prog w = .ok (.bool false) w := by
  obtain ⟨i, hi⟩ := info36
  exact Lib.run_neq_ptr_same w a Yba.underlying27 hi

set_option maxHeartbeats 1000000 in
theorem check (N c m cap g : Nat) (W : Nat → Nat) (w0 w : World) (F L : Value) (Pv Nx : Nat → Value) (hc : c ≤ 1025) (hm : m ≤ c) (hQ : Q N c c w0 w F L (ptr N) Pv Nx) (hL : Linked N c m W F L Pv Nx)
    (hW : ∀ k, k < m → w.cell? ⟨g, k, none⟩ = some (.int .i64 (W k))) :
    Calls Yba.prog 9 #[.pointer (some ⟨N, 0, none⟩), .slice (some ⟨N + 1, 0, none⟩) c c, .slice (some ⟨g, 0, none⟩) m cap] w fun e w' => e = .returned (.bool true) ∧ w = w' := by
  have h1 := hQ.first
  have h2 := hQ.last
  rw [hL.first] at h1
  rw [hL.last] at h2
  have HQ : Hid (_ ∧ _) := ⟨hQ, hL⟩
  clear hQ hL
  have hsame := same27
  go_enter Yba.func9, Yba.ntmps9
  go_wp2
  go_loop [7, 8, 9] (fun p b i => ∃ k : Nat, k ≤ m ∧ i = .int .i64 k ∧ p = posn N m W k ∧ b = bef N W k) (fun _ _ i => m - (intOf i).toNat)
  case atStart => exact ⟨0, Nat.zero_le _, rfl, rfl, rfl⟩
  case round =>
    obtain ⟨k, hk, rfl, hp, hb⟩ := hrel
    by_cases hlt : k < m
    · rw [posn_lt hlt] at hp
      subst hp
      obtain ⟨hQ, hL⟩ := HQ.out
      have hwk := hL.lt k hlt
      have e1 := hW k hlt
      have e2 := hQ.arr (W k) hwk
      have e3 := hQ.prev (W k) hwk
      have e4 := hQ.next (W k) hwk
      rw [hL.prev k hlt] at e3
      rw [hL.next k hlt] at e4
      unfold ptr at e2
      clear hQ hL hW
      cases k with
      | zero =>
        rw [bef_zero] at hb e3
        subst hb
        go_wp2
        go_round
        case rel => exact ⟨0 + 1, by omega, by go_num, rfl, bef_succ.symm⟩
        case measure => simp [intOf]; omega
      | succ j =>
        rw [bef_succ] at hb e3
        subst hb
        go_wp2
        go_round
        case rel => exact ⟨j + 1 + 1, by omega, by go_num, rfl, bef_succ.symm⟩
        case measure => simp [intOf]; omega
    · have ek : k = m := by omega
      rw [posn_end hlt] at hp
      subst hp
      subst ek
      clear hb
      go_wp2
      go_loop [10, 11, 12] (fun q a i => ∃ j : Nat, j ≤ k ∧ i = .int .i64 ((j : Int) - 1) ∧ q = bef N W j ∧ a = posn N k W j) (fun _ _ i => (intOf i + 1).toNat)
      case atStart => exact ⟨k, Nat.le_refl _, rfl, rfl, (posn_end hlt).symm⟩
      case round =>
        obtain ⟨j, hj, rfl, hq, ha⟩ := hrel
        cases j with
        | zero =>
          rw [bef_zero] at hq
          subst hq
          go_wp2
          go_ret
          exact ⟨rfl, rfl⟩
        | succ i =>
          rw [bef_succ] at hq
          subst hq
          obtain ⟨hQ, hL⟩ := HQ.out
          have hwk := hL.lt i (by omega)
          have e1 := hW i (by omega)
          have e2 := hQ.arr (W i) hwk
          have e3 := hQ.prev (W i) hwk
          have e4 := hQ.next (W i) hwk
          rw [hL.prev i (by omega)] at e3
          rw [hL.next i (by omega)] at e4
          unfold ptr at e2
          clear hQ hL hW
          have ei : ((i + 1 : Nat) : Int) - 1 = (i : Int) := by omega
          rw [ei]
          by_cases hl2 : i + 1 < k
          · rw [posn_lt hl2] at ha e4
            subst ha
            go_wp2
            go_round
            case rel => exact ⟨i, by omega, by go_num, rfl, (posn_lt (by omega)).symm⟩
            case measure => simp [intOf]
          · rw [posn_end hl2] at ha e4
            subst ha
            go_wp2
            go_round
            case rel => exact ⟨i, by omega, by go_num, rfl, (posn_lt (by omega)).symm⟩
            case measure => simp [intOf]
end Go.Proofs.Ybulkbrmm.Qu

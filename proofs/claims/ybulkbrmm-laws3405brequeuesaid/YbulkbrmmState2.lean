/-
  'enqueue' on a queue that is linked as wanted: it is linked as wanted still, the new one at its front or at its back.
-/
import Derived.Test.YbulkbrmmState
namespace Go.Proofs.Ybulkbrmm.Qu
open Go.ChangeShapes Go.WideShapes Go.ChangeAt Go.RowKit

/-- i ahead of all. -/
def wf (W : Nat → Nat) (i : Nat) : Nat → Nat := fun j => if j = 0 then i else W (j - 1)
/-- i behind the m others. -/
def wb (m : Nat) (W : Nat → Nat) (i : Nat) : Nat → Nat := fun j => if j < m then W j else i
theorem wf_zero {W : Nat → Nat} {i : Nat} : wf W i 0 = i := rfl
theorem wf_succ {W : Nat → Nat} {i j : Nat} : wf W i (j + 1) = W j := by unfold wf; rw [if_neg (by omega)]; rfl
theorem wb_lt {m : Nat} {W : Nat → Nat} {i j : Nat} (h : j < m) : wb m W i j = W j := by unfold wb; rw [if_pos h]
theorem wb_end {m : Nat} {W : Nat → Nat} {i : Nat} : wb m W i m = i := by unfold wb; rw [if_neg (by omega)]
theorem posn_pos {N m : Nat} {W : Nat → Nat} {k : Nat} (h : k < m) : posn N m W k = ptr N (W k) := by unfold posn; rw [if_pos h]
theorem posn_neg {N m : Nat} {W : Nat → Nat} {k : Nat} (h : ¬ k < m) : posn N m W k = nul := by unfold posn; rw [if_neg h]
theorem bef_pos {N : Nat} {W : Nat → Nat} {k : Nat} : bef N W (k + 1) = ptr N (W k) := by unfold bef; rw [if_neg (by omega)]; rfl
theorem bef_nul {N : Nat} {W : Nat → Nat} : bef N W 0 = nul := rfl

section
variable {N c m i : Nat} {W : Nat → Nat} {F L : Value} {Pv Nx : Nat → Value}

theorem front_some (h : Linked N c (m + 1) W F L Pv Nx) (hi : i < c) (hne : ∀ k, k < m + 1 → ¬ W k = i) (inj : ∀ j k, j < m + 1 → k < m + 1 → W j = W k → j = k) :
    Linked N c (m + 1 + 1) (wf W i) (ptr N i) L (upd (upd Pv i nul) (W 0) (ptr N i)) (upd Nx i (ptr N (W 0))) := by
  refine ⟨fun k hk => ?_, ?_, ?_, fun k hk => ?_, fun k hk => ?_⟩
  · cases k with
    | zero => exact hi
    | succ j => rw [wf_succ]; exact h.lt j (by omega)
  · rw [posn_pos (by omega), wf_zero]
  · rw [h.last, bef_pos, bef_pos, wf_succ]
  · cases k with
    | zero => rw [wf_zero, bef_nul, upd_other _ _ (fun e => hne 0 (by omega) e.symm), upd_same]
    | succ j =>
      rw [wf_succ, bef_pos]
      cases j with
      | zero => rw [upd_same, wf_zero]
      | succ j =>
        rw [upd_other _ _ (fun e => by have := inj (j + 1) 0 (by omega) (by omega) e; omega), upd_other _ _ (hne (j + 1) (by omega)), h.prev (j + 1) (by omega), bef_pos, wf_succ]
  · cases k with
    | zero => rw [wf_zero, upd_same, posn_pos (by omega), wf_succ]
    | succ j =>
      rw [wf_succ, upd_other _ _ (hne j (by omega)), h.next j (by omega)]
      by_cases e : j + 1 < m + 1
      · rw [posn_pos e, posn_pos (by omega), wf_succ]
      · rw [posn_neg e, posn_neg (by omega)]
theorem front_none (hi : i < c) : Linked N c 1 (wf W i) (ptr N i) (ptr N i) (upd Pv i nul) (upd Nx i nul) := by
  refine ⟨fun k hk => ?_, ?_, ?_, fun k hk => ?_, fun k hk => ?_⟩
  · obtain rfl : k = 0 := by omega
    exact hi
  · rw [posn_pos (by omega), wf_zero]
  · rw [bef_pos, wf_zero]
  · obtain rfl : k = 0 := by omega
    rw [wf_zero, upd_same, bef_nul]
  · obtain rfl : k = 0 := by omega
    rw [wf_zero, upd_same, posn_neg (by omega)]
theorem back_some (h : Linked N c (m + 1) W F L Pv Nx) (hi : i < c) (hne : ∀ k, k < m + 1 → ¬ W k = i) (inj : ∀ j k, j < m + 1 → k < m + 1 → W j = W k → j = k) :
    Linked N c (m + 1 + 1) (wb (m + 1) W i) F (ptr N i) (upd Pv i (ptr N (W m))) (upd (upd Nx i nul) (W m) (ptr N i)) := by
  refine ⟨fun k hk => ?_, ?_, ?_, fun k hk => ?_, fun k hk => ?_⟩
  · by_cases e : k < m + 1
    · rw [wb_lt e]; exact h.lt k e
    · obtain rfl : k = m + 1 := by omega
      rw [wb_end]; exact hi
  · rw [h.first, posn_pos (by omega), posn_pos (by omega), wb_lt (by omega)]
  · rw [bef_pos, wb_end]
  · by_cases e : k < m + 1
    · rw [wb_lt e, upd_other _ _ (hne k e), h.prev k e]
      cases k with
      | zero => rfl
      | succ j => rw [bef_pos, bef_pos, wb_lt (by omega)]
    · obtain rfl : k = m + 1 := by omega
      rw [wb_end, upd_same, bef_pos, wb_lt (by omega)]
  · by_cases e : k < m + 1
    · rw [wb_lt e]
      by_cases e2 : k = m
      · subst e2
        rw [upd_same, posn_pos (by omega), wb_end]
      · rw [upd_other _ _ (fun e3 => e2 (inj k m e (by omega) e3)), upd_other _ _ (hne k e), h.next k e, posn_pos (by omega), posn_pos (by omega), wb_lt (by omega)]
    · obtain rfl : k = m + 1 := by omega
      rw [wb_end, upd_other _ _ (fun e3 => hne m (by omega) e3.symm), upd_same, posn_neg (by omega)]
theorem back_none (hi : i < c) : Linked N c 1 (wb 0 W i) (ptr N i) (ptr N i) (upd Pv i nul) (upd Nx i nul) := by
  refine ⟨fun k hk => ?_, ?_, ?_, fun k hk => ?_, fun k hk => ?_⟩
  · obtain rfl : k = 0 := by omega
    exact hi
  · rw [posn_pos (by omega), wb_end]
  · rw [bef_pos, wb_end]
  · obtain rfl : k = 0 := by omega
    rw [wb_end, upd_same, bef_nul]
  · obtain rfl : k = 0 := by omega
    rw [wb_end, upd_same, posn_neg (by omega)]

theorem enqFront {w0 w : World} (hQ : Q N c c w0 w F L (ptr N) Pv Nx) (h : Linked N c m W F L Pv Nx) (hi : i < c) (hne : ∀ k, k < m → ¬ W k = i) (inj : ∀ j k, j < m → k < m → W j = W k → j = k) :
    Calls Yba.prog 10 #[.pointer (some ⟨N, 0, none⟩), .pointer (some ⟨N + 2 + i, 0, none⟩), .bool true] w fun e w' => e = .returned (.tuple #[]) ∧ ∃ F' L' Pv' Nx', Q N c c w0 w' F' L' (ptr N) Pv' Nx' ∧ Linked N c (m + 1) (wf W i) F' L' Pv' Nx' := by
  cases m with
  | zero =>
    refine (enq_front0 N c i w0 w F L _ _ _ hQ hi (by rw [h.first, posn_neg (by omega)]) none (by rw [h.last, bef_nul]; rfl)).mono ?_
    rintro e w' ⟨rfl, q⟩
    exact ⟨rfl, _, _, _, _, q, front_none hi⟩
  | succ m =>
    refine (enq_front N c i (W 0) w0 w F L _ _ _ hQ hi (h.lt 0 (by omega)) (hne 0 (by omega)) (by rw [h.first, posn_pos (by omega)]) (some ⟨N + 2 + W m, 0, none⟩) (by rw [h.last, bef_pos]; rfl)).mono ?_
    rintro e w' ⟨rfl, q⟩
    exact ⟨rfl, _, _, _, _, q, front_some h hi hne inj⟩
theorem enqBack {w0 w : World} (hQ : Q N c c w0 w F L (ptr N) Pv Nx) (h : Linked N c m W F L Pv Nx) (hi : i < c) (hne : ∀ k, k < m → ¬ W k = i) (inj : ∀ j k, j < m → k < m → W j = W k → j = k) :
    Calls Yba.prog 10 #[.pointer (some ⟨N, 0, none⟩), .pointer (some ⟨N + 2 + i, 0, none⟩), .bool false] w fun e w' => e = .returned (.tuple #[]) ∧ ∃ F' L' Pv' Nx', Q N c c w0 w' F' L' (ptr N) Pv' Nx' ∧ Linked N c (m + 1) (wb m W i) F' L' Pv' Nx' := by
  cases m with
  | zero =>
    refine (enq_back0 N c i w0 w F L _ _ _ hQ hi (by rw [h.last, bef_nul]) (by rw [h.first, posn_neg (by omega)])).mono ?_
    rintro e w' ⟨rfl, q⟩
    exact ⟨rfl, _, _, _, _, q, back_none hi⟩
  | succ m =>
    refine (enq_back N c i (W m) w0 w F L _ _ _ hQ hi (h.lt m (by omega)) (hne m (by omega)) (by rw [h.last, bef_pos]) (by rw [h.next m (by omega), posn_neg (by omega)])).mono ?_
    rintro e w' ⟨rfl, q⟩
    exact ⟨rfl, _, _, _, _, q, back_some h hi hne inj⟩
end

theorem oth_ne {i : Nat} (k : Nat) : ¬ oth i k = i := by unfold oth; split <;> omega
theorem oth_inj {i j k : Nat} (h : oth i j = oth i k) : j = k := by unfold oth at h; split at h <;> split at h <;> omega
end Go.Proofs.Ybulkbrmm.Qu

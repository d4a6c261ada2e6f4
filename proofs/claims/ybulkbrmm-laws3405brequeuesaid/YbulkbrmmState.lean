/-
  The state of the queue as built; behind 'unlink'; behind 'unlink' and 'enqueue'. The plain law: it is linked as the laws want it.
-/
import Derived.Test.YbulkbrmmBuild
import Derived.Test.YbulkbrmmUnlink
namespace Go.Proofs.Ybulkbrmm.Qu
open Go.ChangeShapes Go.WideShapes Go.ChangeAt Go.RowKit

def pv0 (N : Nat) : Nat → Value := fun i => if i = 0 then nul else ptr N (i - 1)
def nx0 (N c : Nat) : Nat → Value := fun i => if i + 1 < c then ptr N (i + 1) else nul
/-- The j-th of the others. -/
def oth (i j : Nat) : Nat := if j < i then j else j + 1
theorem oth_lt {i j : Nat} (h : j < i) : oth i j = j := by unfold oth; rw [if_pos h]
theorem oth_ge {i j : Nat} (h : ¬ j < i) : oth i j = j + 1 := by unfold oth; rw [if_neg h]
def f1 (N c i : Nat) : Value := if i = 0 then nx0 N c 0 else ptr N 0
def l1 (N c i : Nat) : Value := if i + 1 < c then ptr N (c - 1) else pv0 N i
def pv1 (N i : Nat) : Nat → Value := fun j => if j = i then nul else if j = i + 1 then pv0 N i else pv0 N j
def nx1 (N c i : Nat) : Nat → Value := fun j => if j = i then nul else if j + 1 = i then nx0 N c i else nx0 N c j

theorem pv0_zero {N : Nat} : pv0 N 0 = nul := rfl
theorem pv0_succ {N i : Nat} : pv0 N (i + 1) = ptr N i := by unfold pv0; rw [if_neg (by omega)]; rfl
theorem nx0_lt {N c i : Nat} (h : i + 1 < c) : nx0 N c i = ptr N (i + 1) := by unfold nx0; rw [if_pos h]
theorem nx0_end {N c i : Nat} (h : ¬ i + 1 < c) : nx0 N c i = nul := by unfold nx0; rw [if_neg h]

/-- 'unlink' on the queue as built. -/
theorem unlink_any (N c i : Nat) (w0 w : World) (hi : i < c) (hQ : Q N c c w0 w (ptr N 0) (ptr N (c - 1)) (ptr N) (pv0 N) (nx0 N c)) :
    Calls Yba.prog 8 #[.pointer (some ⟨N, 0, none⟩), .pointer (some ⟨N + 2 + i, 0, none⟩)] w fun e w' => e = .returned (.tuple #[]) ∧ Q N c c w0 w' (f1 N c i) (l1 N c i) (ptr N) (pv1 N i) (nx1 N c i) := by
  cases i with
  | zero =>
    by_cases hc : 0 + 1 < c
    · refine (unlink_first N c 0 1 w0 w _ _ _ _ _ hQ hi hc (by omega) pv0_zero (nx0_lt hc)).mono ?_
      rintro e w' ⟨rfl, h⟩
      refine ⟨rfl, h.congr ?_ ?_ (fun _ _ => rfl) (fun j _ => ?_) (fun j _ => ?_)⟩
      · unfold f1; rw [if_pos rfl, nx0_lt hc]
      · unfold l1; rw [if_pos hc]
      · unfold pv1 upd; by_cases e : j = 0
        · rw [if_pos e, if_pos e]
        · rw [if_neg e, if_neg e]; rfl
      · unfold nx1 upd; by_cases e : j = 0
        · rw [if_pos e, if_pos e]
        · rw [if_neg e, if_neg e, if_neg (by omega)]
    · refine (unlink_only N c 0 w0 w _ _ _ _ _ hQ hi pv0_zero (nx0_end hc)).mono ?_
      rintro e w' ⟨rfl, h⟩
      refine ⟨rfl, h.congr ?_ ?_ (fun _ _ => rfl) (fun j hj => ?_) (fun j hj => ?_)⟩
      · unfold f1; rw [if_pos rfl, nx0_end hc]
      · unfold l1; rw [if_neg hc]; rfl
      · unfold pv1 upd; rw [if_pos (by omega), if_pos (by omega)]
      · unfold nx1 upd; rw [if_pos (by omega), if_pos (by omega)]
  | succ i =>
    by_cases hc : i + 1 + 1 < c
    · refine (unlink_mid N c (i + 1) i (i + 1 + 1) w0 w _ _ _ _ _ hQ hi (by omega) (by omega) hc (by omega) pv0_succ (nx0_lt hc)).mono ?_
      rintro e w' ⟨rfl, h⟩
      refine ⟨rfl, h.congr ?_ ?_ (fun _ _ => rfl) (fun j _ => ?_) (fun j _ => ?_)⟩
      · unfold f1; rw [if_neg (by omega)]
      · unfold l1; rw [if_pos hc]
      · unfold pv1 upd; by_cases e : j = i + 1
        · rw [if_pos e, if_pos e]
        · rw [if_neg e, if_neg e, pv0_succ]
      · unfold nx1 upd; by_cases e : j = i + 1
        · rw [if_pos e, if_pos e]
        · rw [if_neg e, if_neg e, nx0_lt hc]
          by_cases e2 : j = i
          · rw [if_pos e2, if_pos (by omega)]
          · rw [if_neg e2, if_neg (by omega)]
    · refine (unlink_last N c (i + 1) i w0 w _ _ _ _ _ hQ hi (by omega) (by omega) pv0_succ (nx0_end hc)).mono ?_
      rintro e w' ⟨rfl, h⟩
      refine ⟨rfl, h.congr ?_ ?_ (fun _ _ => rfl) (fun j hj => ?_) (fun j _ => ?_)⟩
      · unfold f1; rw [if_neg (by omega)]
      · unfold l1; rw [if_neg hc, pv0_succ]
      · unfold pv1 upd; by_cases e : j = i + 1
        · rw [if_pos e, if_pos e]
        · rw [if_neg e, if_neg e, if_neg (by omega)]
      · unfold nx1 upd; by_cases e : j = i + 1
        · rw [if_pos e, if_pos e]
        · rw [if_neg e, if_neg e, nx0_end hc]
          by_cases e2 : j = i
          · rw [if_pos e2, if_pos (by omega)]
          · rw [if_neg e2, if_neg (by omega)]

/-- THE PLAIN LAW behind 'unlink': the others, in their order. -/
theorem linked_unlink (N c i : Nat) (hi : i < c) : Linked N c (c - 1) (oth i) (f1 N c i) (l1 N c i) (pv1 N i) (nx1 N c i) := by
  refine ⟨fun k hk => ?_, ?_, ?_, fun k hk => ?_, fun k hk => ?_⟩
  · unfold oth; split <;> omega
  · unfold f1 posn oth nx0
    by_cases e : i = 0
    · subst e
      by_cases h : 0 + 1 < c
      · rw [if_pos rfl, if_pos h, if_pos (by omega), if_neg (by omega)]
      · rw [if_pos rfl, if_neg h, if_neg (by omega)]
    · rw [if_neg e, if_pos (by omega), if_pos (by omega)]
  · unfold l1 bef oth pv0
    by_cases h : i + 1 < c
    · rw [if_pos h, if_neg (by omega), if_neg (by omega)]
      congr 1; omega
    · rw [if_neg h]
      by_cases e : i = 0
      · rw [if_pos e, if_pos (by omega)]
      · rw [if_neg e, if_neg (by omega), if_pos (by omega)]
        congr 1; omega
  · unfold pv1 bef pv0
    by_cases h : k < i
    · rw [oth_lt h, if_neg (by omega), if_neg (by omega)]
      by_cases e : k = 0
      · rw [if_pos e, if_pos e]
      · rw [if_neg e, if_neg e, oth_lt (by omega)]
    · rw [oth_ge h, if_neg (by omega)]
      by_cases e : k = i
      · rw [if_pos (by omega)]
        by_cases e2 : i = 0
        · rw [if_pos e2, if_pos (by omega)]
        · rw [if_neg e2, if_neg (by omega), oth_lt (by omega)]
          congr 1; omega
      · rw [if_neg (by omega), if_neg (by omega), if_neg (by omega), oth_ge (by omega)]
        congr 1; omega
  · unfold nx1 posn nx0
    by_cases h : k < i
    · rw [oth_lt h, if_neg (by omega)]
      by_cases e : k + 1 = i
      · rw [if_pos e]
        by_cases e2 : i + 1 < c
        · rw [if_pos e2, if_pos (by omega), oth_ge (by omega)]
          congr 1; omega
        · rw [if_neg e2, if_neg (by omega)]
      · rw [if_neg e, if_pos (by omega), if_pos (by omega), oth_lt (by omega)]
    · rw [oth_ge h, if_neg (by omega), if_neg (by omega)]
      by_cases e2 : k + 1 + 1 < c
      · rw [if_pos e2, if_pos (by omega), oth_ge (by omega)]
      · rw [if_neg e2, if_neg (by omega)]

theorem pv1_self {N i : Nat} : pv1 N i i = nul := by unfold pv1; rw [if_pos rfl]
theorem nx1_self {N c i : Nat} : nx1 N c i i = nul := by unfold nx1; rw [if_pos rfl]
end Go.Proofs.Ybulkbrmm.Qu

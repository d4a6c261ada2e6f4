/-
  The contract of '(*leafHeap).down'.
-/
import Derived.Test.YbulkbrkwDownP
import Derived.Sort.WalkB12
import Derived.Deep.LoopGhost
import Derived.Deep.QuietTactic
import Derived.StillTailTactics
import Derived.BigQuiet
namespace Go.Proofs.Ybulkbrkw.Hp
open Go.RowKit Go.Sort Go.Maps

theorem above (x y : Int) (w : World) : Calls Yba.prog 9 #[.int .i64 x, .int .i64 y] w fun e w' => e = .returned (.bool (decide (x > y))) ∧ w' = w := by
  go_enter Yba.func9, Yba.ntmps9
  go_wp2
  go_ret
  exact ⟨rfl, rfl⟩

theorem idx0 (a b : Value) (w : World) : (Instr.index 43 (.agg #[a, b]) (.int .i64 0)).run Yba.prog w = .ok a w := by kernel_rfl
theorem idx1 (a b : Value) (w : World) : (Instr.index 43 (.agg #[a, b]) (.int .i64 1)).run Yba.prog w = .ok b w := by kernel_rfl

set_option maxHeartbeats 16000000 in
set_option maxRecDepth 1000000 in
theorem down (hb ib mb n i0 : Nat) (w : World) (d0 : Array Int) (h : HM hb ib mb n w d0) (hA : Apart d0) (hF : Fits d0) (hI : Inv i0 i0 d0 d0) (hi : i0 ≤ 1024) (hn : n ≤ 1024) :
    Calls Yba.prog 10 #[.pointer (some ⟨hb, 0, none⟩), .int .i64 i0] w fun e w' => e = .returned (.tuple #[]) ∧ ∃ d, HM hb ib mb n w' d ∧ d.toList.Perm d0.toList ∧ Ordered i0 d ∧ Turn ib mb w w' := by
  go_enter Yba.func10, Yba.ntmps10
  go_wp2
  go_loopg [1] (n + 1) (fun g s1 wr => ∃ (i : Nat) (d : Array Int), s1 = .int .i64 i ∧ i ≤ 1024 ∧ n + 1 - i ≤ g ∧ HM hb ib mb n wr d ∧ Hid (Inv i0 i d0 d) ∧ Hid (Turn ib mb w wr))
  case atStart => exact ⟨i0, d0, rfl, hi, by omega, h, hI, Turn.refl _ _ _⟩
  case round =>
    obtain ⟨i, d, rfl, hi', hg, hm, HI, HT⟩ := hrel
    have hdA : Hid (Apart d) := HI.out.apart hA
    have hdF : Hid (Fits d) := HI.out.fits hF
    have HM0 : Hid (HM hb ib mb n wr d) := hm
    obtain ⟨sz, c0, c1, c2, items, _, n1, n2, n3⟩ := hm
    have HH : Hid (Holds (Value.int .i64) wr ib 0 d) := items
    clear h hI c1 items
    obtain ⟨wo, rfl⟩ : ∃ wo : World, wo = wr := ⟨_, rfl⟩
    go_wp2
    go_loopw [15, 4] (fun s15 s4 wq => ∃ (k q : Nat), k ≤ 2 ∧ s15 = .int .i64 k ∧ s4 = .int .i64 (if k = 0 then i else if k = 1 then top1 d n i else top2 d n i : Nat) ∧ wq = wo.drewN q) (fun s15 _ _ => 2 - (intOf s15).toNat)
    case atStart => exact ⟨0, 0, by omega, rfl, rfl, rfl⟩
    case round =>
      obtain ⟨k, q, hk, rfl, rfl, hwq⟩ := hrel
      have HQ : Hid (wr = wo.drewN q) := hwq
      have c0q : wr.cell? ⟨hb, 0, none⟩ = some (.slice (some ⟨ib, 0, none⟩) n n) := by rw [hwq]; exact c0
      have c2q : wr.cell? ⟨hb, 2, none⟩ = some (.func (.func 9) #[] #[]) := by rw [hwq]; exact c2
      have HQ2 : Hid (Holds (Value.int .i64) wr ib 0 d) := by rw [hwq]; exact HH.out
      clear hwq c0 c2
      rcases (show k = 0 ∨ k = 1 ∨ k = 2 by omega) with rfl | rfl | rfl
      · simp only [reduceIte]
        obtain ⟨t, ht⟩ : ∃ t, t = i := ⟨_, rfl⟩
        have HTT : Hid (t = i) := ht
        have ti : t ≤ 2 * i + 1 := by omega
        rw [show ((i : Nat) : Int) = ((i : Nat) : Int) from rfl]
        have x0 := idx0 (.int .i64 (2 * (i : Int) + 1)) (.int .i64 (2 * (i : Int) + 2)) wr
        clear ht
        by_cases g1 : 2 * i + 1 < n
        · obtain ⟨x, hx⟩ : ∃ x, x = d[i]! := ⟨_, rfl⟩
          obtain ⟨y, hy⟩ : ∃ y, y = d[2 * i + 1]! := ⟨_, rfl⟩
          have cx := (HQ2.out i (by omega)).1
          have cy := (HQ2.out (2 * i + 1) (by omega)).1
          rw [← hx, Nat.zero_add] at cx
          rw [← hy, Nat.zero_add] at cy
          have g1' : 2 * (i : Int) + 1 < (n : Int) := by omega
          have p1 : (0 : Int) ≤ 2 * (i : Int) + 1 := by omega
          have e1 : (2 * (i : Int) + 1).toNat = 2 * i + 1 := by omega
          have im : ((i : Nat) : Int) < (n : Int) := by omega
          have HX : Hid (x = d[i]! ∧ y = d[2 * i + 1]!) := ⟨hx, hy⟩
          clear hx hy
          by_cases tt : x < y
          · have tz : y > x := tt
            have T : Hid (top1 d n i = 2 * i + 1) := by
              show _ = _; unfold top1; rw [if_pos ⟨g1, by rw [← HX.out.1, ← HX.out.2]; exact tt⟩]
            go_wp2_with fail
            go_quiet (first | (go_at_call 9; refine Calls.quiet_of_same (above _ _ _)))
            go_wp2_with fail
            go_roundw
            case measure => simp [intOf]
            case rel => exact ⟨1, q + nq, by omega, by go_num, by simp only [reduceIte, T.out]; go_num, (by rw [HQ.out, World.drewN_drewN])⟩
          · have tz : decide (y > x) = false := decide_eq_false tt
            have T : Hid (top1 d n i = i) := by
              show _ = _; unfold top1; rw [if_neg (fun h => tt (by rw [HX.out.1, HX.out.2]; exact h.2))]
            go_wp2_with fail
            go_quiet (first | (go_at_call 9; refine Calls.quiet_of_same (above _ _ _)))
            go_wp2_with fail
            go_roundw
            case measure => simp [intOf]
            case rel => exact ⟨1, q + nq, by omega, by go_num, by simp only [reduceIte, T.out]; go_num, (by rw [HQ.out, World.drewN_drewN])⟩
        · have gz : decide (2 * (i : Int) + 1 < (n : Int)) = false := decide_eq_false (by omega)
          have T : Hid (top1 d n i = i) := by
            show _ = _; unfold top1; rw [if_neg (fun h => g1 h.1)]
          go_wp2_with fail
          go_quiet (fail)
          go_wp2_with fail
          go_roundw
          case measure => simp [intOf]
          case rel => exact ⟨1, q + nq, by omega, by go_num, by simp only [reduceIte, T.out]; go_num, (by rw [HQ.out, World.drewN_drewN])⟩
      · simp only [show ¬ (1 : Nat) = 0 by omega, reduceIte]
        obtain ⟨t, ht⟩ : ∃ t, t = top1 d n i := ⟨_, rfl⟩
        have ti : t ≤ 2 * i + 1 := by rcases top1_lt (d := d) (n := n) (i := i) with e | ⟨e, _⟩ <;> omega
        rw [← ht]
        have HTT : Hid (t = top1 d n i) := ht
        have x0 := idx1 (.int .i64 (2 * (i : Int) + 1)) (.int .i64 (2 * (i : Int) + 2)) wr
        clear ht
        by_cases g1 : 2 * i + 2 < n
        · obtain ⟨x, hx⟩ : ∃ x, x = d[t]! := ⟨_, rfl⟩
          obtain ⟨y, hy⟩ : ∃ y, y = d[2 * i + 2]! := ⟨_, rfl⟩
          have cx := (HQ2.out t (by omega)).1
          have cy := (HQ2.out (2 * i + 2) (by omega)).1
          rw [← hx, Nat.zero_add] at cx
          rw [← hy, Nat.zero_add] at cy
          have g1' : 2 * (i : Int) + 2 < (n : Int) := by omega
          have p1 : (0 : Int) ≤ 2 * (i : Int) + 2 := by omega
          have e1 : (2 * (i : Int) + 2).toNat = 2 * i + 2 := by omega
          have im : ((t : Nat) : Int) < (n : Int) := by omega
          have HX : Hid (x = d[t]! ∧ y = d[2 * i + 2]!) := ⟨hx, hy⟩
          clear hx hy
          by_cases tt : x < y
          · have tz : y > x := tt
            have T : Hid (top2 d n i = 2 * i + 2) := by
              show _ = _; unfold top2; rw [if_pos ⟨g1, by rw [← HTT.out, ← HX.out.1, ← HX.out.2]; exact tt⟩]
            go_wp2_with fail
            go_quiet (first | (go_at_call 9; refine Calls.quiet_of_same (above _ _ _)))
            go_wp2_with fail
            go_roundw
            case measure => simp [intOf]
            case rel => exact ⟨2, q + nq, by omega, by go_num, by simp only [T.out]; go_num, (by rw [HQ.out, World.drewN_drewN])⟩
          · have tz : decide (y > x) = false := decide_eq_false tt
            have T : Hid (top2 d n i = t) := by
              show _ = _; unfold top2; rw [if_neg (fun h => tt (by rw [HX.out.1, HX.out.2, HTT.out]; exact h.2))]; exact HTT.out.symm
            go_wp2_with fail
            go_quiet (first | (go_at_call 9; refine Calls.quiet_of_same (above _ _ _)))
            go_wp2_with fail
            go_roundw
            case measure => simp [intOf]
            case rel => exact ⟨2, q + nq, by omega, by go_num, by simp only [T.out]; go_num, (by rw [HQ.out, World.drewN_drewN])⟩
        · have gz : decide (2 * (i : Int) + 2 < (n : Int)) = false := decide_eq_false (by omega)
          have T : Hid (top2 d n i = t) := by
            show _ = _; unfold top2; rw [if_neg (fun h => g1 h.1)]; exact HTT.out.symm
          go_wp2_with fail
          go_quiet (fail)
          go_wp2_with fail
          go_roundw
          case measure => simp [intOf]
          case rel => exact ⟨2, q + nq, by omega, by go_num, by simp only [T.out]; go_num, (by rw [HQ.out, World.drewN_drewN])⟩
      · simp only [show ¬ (2 : Nat) = 0 by omega, show ¬ (2 : Nat) = 1 by omega, reduceIte]
        have HMq : Hid (HM hb ib mb n wr d) := by rw [HQ.out]; exact HM0.out.drewN q
        have HTq : Hid (Turn ib mb w wr) := by rw [HQ.out]; exact HT.out.drewN q
        obtain ⟨t, ht⟩ : ∃ t, t = top2 d n i := ⟨_, rfl⟩
        rw [← ht]
        have HTT : Hid (t = top2 d n i) := ht
        clear c0q c2q HQ HM0 HT
        by_cases e : t = i
        · clear ht
          subst e
          go_wp2_with fail
          (try simp only [Exit.inBlock, Exit.then]); refine bodyPost_ret (results_none rfl _ _ _) rfl ?_
          exact ⟨rfl, d, HMq.out, HI.out.perm, HI.out.done hdA.out (by rw [sz]; exact HTT.out.symm), HTq.out⟩
        · obtain ⟨hc, hlt, hgt⟩ := (top2_eq (d := d) (n := n) (i := i)).resolve_left (by rw [← ht]; exact e)
          rw [← ht] at hc hlt
          have hti : i < t := by omega
          have e' : ¬ i = t := by omega
          have HST : Hid (Inv i0 t d0 (swp d i t)) := by
            have h := HI.out.step hdA.out (by rw [sz, ← ht]; exact e)
            rw [sz, ← ht] at h; exact h
          clear ht hgt hc
          go_wp2_with (go_at_call 15; refine (swap hb ib mb n i t wr d HMq.out hdA.out hdF.out (by omega) hlt e' hn).mono ?_; rintro e w5 ⟨rfl, hm5, hT5⟩)
          go_roundg (n + 1 - t)
          case measure => omega
          case rel => exact ⟨t, swp d i t, by go_num, by omega, Nat.le_refl _, hm5, HST, HTq.out.trans hT5⟩
end Go.Proofs.Ybulkbrkw.Hp

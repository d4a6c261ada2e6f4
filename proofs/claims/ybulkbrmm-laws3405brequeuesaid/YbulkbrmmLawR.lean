/-
  The walk of 'LawS3405BRequeue'.
-/
import Derived.Test.YbulkbrmmState2
import Derived.Test.YbulkbrmmLawU
namespace Go.Proofs.Ybulkbrmm.Qu
open Go.ChangeShapes Go.WideShapes Go.ChangeAt Go.RowKit

theorem cnt_mono {i t c : Nat} (e : ¬ t = i) (h : t < c) : cnt i t + 1 ≤ cnt i c := by unfold cnt; split <;> split <;> omega
theorem frow_at {i k j : Nat} (h : j < 1 + cnt i k) : (Value.int .i64 (i : Nat) :: row i k)[j]? = some (.int .i64 (wf (oth i) i j : Nat)) := by
  cases j with
  | zero => rfl
  | succ j => rw [wf_succ, List.getElem?_cons_succ]; exact row_at (by omega)
theorem brow_at {n i k j : Nat} (e : cnt i k = n) (h : j < cnt i k + 1) : (row i k ++ [Value.int .i64 (i : Nat)])[j]? = some (.int .i64 (wb n (oth i) i j : Nat)) := by
  have hl : (row i k).length = n := by unfold row; simp [e]
  by_cases h' : j < n
  · rw [wb_lt h', List.getElem?_append_left (by omega)]; exact row_at (by omega)
  · obtain rfl : j = n := by omega
    rw [wb_end, List.getElem?_append_right (by omega), hl]; simp

set_option maxHeartbeats 2000000 in
theorem lawF (n k i : Nat) (w : World) (hn : n ≤ 1024) (hk : k ≤ 65535) (hi : i = k % (n + 1)) :
    Calls Yba.prog 4 #[.int .u16 n, .int .u16 k, .bool true] w fun e w' => e = .returned (.bool true) ∧ Below w.heap.size w w' := by
  have ei : ((k : Int) % ((n : Int) + 1)) = (i : Int) := by subst hi; rw [Int.natCast_emod]; simp
  have hic : i < n + 1 := by subst hi; exact Nat.mod_lt _ (by omega)
  clear hi
  go_enter Yba.func4, Yba.ntmps4
  go_wp2_with fail
  refine (build' (n + 1) _ w (by omega) (by omega) (by omega)).mono ?_
  rintro e w1 ⟨rfl, hs1, hQ⟩
  have a1 := hQ.arr i hic
  unfold ptr at a1
  have HQ : Hid _ := hQ
  have HS : Hid (w1.heap.size = w.heap.size + 2 + (n + 1)) := hs1
  clear hQ hs1
  go_wp2_with fail
  refine (unlink_any w.heap.size (n + 1) i w w1 hic HQ.out).mono ?_
  rintro e w1b ⟨rfl, hQ⟩
  have HQ : Hid _ := hQ
  clear hQ
  go_wp2_with fail
  refine (enqFront HQ.out (m := n) (W := oth i) (linked_unlink w.heap.size (n + 1) i hic) hic (fun k _ => oth_ne k) (fun j k _ _ h => oth_inj h)).mono ?_
  rintro e w2 ⟨rfl, F, L, Pv, Nx, hQ, hLk⟩
  have HQ : Hid _ := hQ
  have HL : Hid _ := hLk
  clear hQ hLk
  obtain ⟨i0, hi0, hz0, hz1, hz2⟩ := info_parts info3
  have hb8 : i0.bytes * (n + 1) ≤ 281474976710656 := by rw [hz2]; omega
  have hm8 : n + 1 ≤ maxLen := by unfold maxLen; omega
  go_upto_region 11 with (at_make; refine wpList_make_own _ rfl _ _ 29 rfl w2.heap.size 3 i0 (.int .i64 0) 1 Yba.underlying29 hi0 hz0 hz1 .i64 .i64 _ (n + 1) rfl rfl (by omega) hb8 hm8 (Nat.le_refl _) ?_; intro w3 hown hgrow; clear hb8)
  have hG : w.heap.size + 2 + (n + 1) ≤ w2.heap.size := HQ.out.size
  have HQ3 : Hid (Q w.heap.size (n + 1) (n + 1) w w3 F L (ptr w.heap.size) Pv Nx) :=
    HQ.out.kept ((Below.refl _ _).grown hgrow hG (fun k h => by cases h))
  have HI : Hid (Yba.prog.info? 3 = some i0 ∧ i0.size = 1) := ⟨hi0, hz1⟩
  clear HQ hgrow HS a1 hi0 hz0 hz1 hz2 hm8
  have hlt3 := own_lt hown
  go_wp2_with (at_builtin; refine wpList_append_fits _ rfl _ _ 29 rfl w2.heap.size 3 i0 1 Yba.underlying29 HI.out.1 HI.out.2 w2.heap.size 0 (n + 1) [] rfl (hown.alloc _) ⟨w3.heap.size, 0, none⟩ 1 1 [.int .i64 i] rfl rfl ?b1 ?b2 (by omega) ?_)
  case b1 => exact cell_one_new _ _ _
  case b2 => intro u hu; simp at hu; subst hu; rfl
  intro w3b hown3 hgrow3
  have hb3 : Below (w.heap.size + 2 + (n + 1)) w3 w3b := ((Below.refl _ _).alloc (by omega) _).grown hgrow3 (by simp; omega) (fun k h => by cases h; omega)
  have HQ3b : Hid (Q w.heap.size (n + 1) (n + 1) w w3b F L (ptr w.heap.size) Pv Nx) := HQ3.out.kept hb3
  have HO3 : Hid (w3b.ownsRow w2.heap.size 3 1 (.slice (some ⟨w2.heap.size, 0, none⟩) (1 + cnt i 0) (n + 1)) (1 + cnt i 0) (.int .i64 i :: row i 0)) := by
    have e1 : cnt i 0 = 0 := by simp [cnt]
    have e2 : row i 0 = [] := by simp [row, e1]
    rw [e1, e2]; exact hown3
  have hlt3b := own_lt hown3
  clear hown3 hgrow3 hb3 hown HQ3 hlt3
  go_wp2
  go_loopw [12, 13] (fun wt i2 wr => ∃ t : Nat, t ≤ n + 1 ∧ i2 = .int .i64 t ∧ wt = .slice (some ⟨w2.heap.size, 0, none⟩) (1 + cnt i t) (n + 1) ∧ wr.ownsRow w2.heap.size 3 1 (.slice (some ⟨w2.heap.size, 0, none⟩) (1 + cnt i t) (n + 1)) (1 + cnt i t) (.int .i64 i :: row i t) ∧
      w2.heap.size < wr.heap.size ∧ Q w.heap.size (n + 1) (n + 1) w wr F L (ptr w.heap.size) Pv Nx)
    (fun _ i2 _ => n + 1 - (intOf i2).toNat)
  case atStart => exact ⟨0, Nat.zero_le _, rfl, by simp [cnt], HO3.out, hlt3b, HQ3b.out⟩
  case round =>
    obtain ⟨t, ht, rfl, rfl, hown2, hlt2, hQ⟩ := hrel
    clear HO3 HQ3b
    have hcl := @cnt_le i t
    by_cases hlt : t < n + 1
    · by_cases e : t = i
      · have e2 : ((t : Int) != (i : Int)) = false := by simp [e]
        have HE : Hid (t = i) := e
        have HO : Hid (_ ∧ _) := ⟨hown2, hQ⟩
        clear e hown2 hQ
        go_wp2
        go_roundw
        case rel =>
          obtain ⟨o1, o2⟩ := HO.out
          exact ⟨t + 1, by omega, by go_num, by rw [cnt_miss HE.out], by rw [cnt_miss HE.out, row_miss HE.out]; exact o1, hlt2, o2⟩
        case measure => simp [intOf]; omega
      · have e2 : ((t : Int) != (i : Int)) = true := by simp; omega
        have hct : 1 + cnt i t + 1 ≤ n + 1 := by have := cnt_end hic; have := cnt_mono (i := i) e hlt; omega
        have HO : Hid _ := hQ
        clear hQ
        go_wp2_with (at_builtin; refine wpList_append_fits _ rfl _ _ 29 rfl w2.heap.size 3 i0 1 Yba.underlying29 HI.out.1 HI.out.2 w2.heap.size (1 + cnt i t) (n + 1) (.int .i64 i :: row i t) rfl (hown2.alloc _) ⟨wr.heap.size, 0, none⟩ 1 1 [.int .i64 t] rfl rfl ?c1 ?c2 hct ?_)
        case c1 => exact cell_one_new _ _ _
        case c2 => intro u hu; simp at hu; subst hu; rfl
        intro w4 hown4 hgrow4
        have hb4 : Below (w.heap.size + 2 + (n + 1)) wr w4 := ((Below.refl _ _).alloc (by omega) _).grown hgrow4 (by simp; omega) (fun k h => by cases h; omega)
        have hs4 := hb4.size
        have HQ4 : Hid _ := HO.out.kept hb4
        have HO4 : Hid _ := hown4
        clear hown4 hgrow4 hb4 hown2 HO
        go_wp2
        go_roundw
        case rel => exact ⟨t + 1, by omega, by go_num, by rw [cnt_hit e]; rfl, by rw [cnt_hit e, row_hit e]; exact HO4.out, by omega, HQ4.out⟩
        case measure => simp [intOf]; omega
    · have et : t = n + 1 := by omega
      have HT : Hid (t = n + 1) := et
      have HO : Hid (_ ∧ _) := ⟨hown2, hQ⟩
      clear hQ hown2 et
      go_wp2_with fail
      obtain ⟨o1, o2⟩ := HO.out
      have ec : 1 + cnt i t = n + 1 := by rw [HT.out, cnt_end hic]; omega
      refine (check w.heap.size (n + 1) (1 + cnt i t) (n + 1) w2.heap.size (wf (oth i) i) w wr _ _ _ _ (by omega) (by omega) o2 (by rw [ec]; exact HL.out) (fun j hj => by rw [o1.cellAt j (by omega)]; exact frow_at hj)).mono ?_
      rintro e w' ⟨rfl, hw⟩
      cases hw
      clear o1 o2 ec
      go_wp2
      go_ret
      exact ⟨rfl, HO.out.2.below⟩

set_option maxHeartbeats 2000000 in
theorem lawB (n k i : Nat) (w : World) (hn : n ≤ 1024) (hk : k ≤ 65535) (hi : i = k % (n + 1)) :
    Calls Yba.prog 4 #[.int .u16 n, .int .u16 k, .bool false] w fun e w' => e = .returned (.bool true) ∧ Below w.heap.size w w' := by
  have ei : ((k : Int) % ((n : Int) + 1)) = (i : Int) := by subst hi; rw [Int.natCast_emod]; simp
  have hic : i < n + 1 := by subst hi; exact Nat.mod_lt _ (by omega)
  clear hi
  go_enter Yba.func4, Yba.ntmps4
  go_wp2_with fail
  refine (build' (n + 1) _ w (by omega) (by omega) (by omega)).mono ?_
  rintro e w1 ⟨rfl, hs1, hQ⟩
  have a1 := hQ.arr i hic
  unfold ptr at a1
  have HQ : Hid _ := hQ
  have HS : Hid (w1.heap.size = w.heap.size + 2 + (n + 1)) := hs1
  clear hQ hs1
  go_wp2_with fail
  refine (unlink_any w.heap.size (n + 1) i w w1 hic HQ.out).mono ?_
  rintro e w1b ⟨rfl, hQ⟩
  have HQ : Hid _ := hQ
  clear hQ
  go_wp2_with fail
  refine (enqBack HQ.out (m := n) (W := oth i) (linked_unlink w.heap.size (n + 1) i hic) hic (fun k _ => oth_ne k) (fun j k _ _ h => oth_inj h)).mono ?_
  rintro e w2 ⟨rfl, F, L, Pv, Nx, hQ, hLk⟩
  have HQ : Hid _ := hQ
  have HL : Hid _ := hLk
  clear hQ hLk
  obtain ⟨i0, hi0, hz0, hz1, hz2⟩ := info_parts info3
  have hb8 : i0.bytes * (n + 1) ≤ 281474976710656 := by rw [hz2]; omega
  have hm8 : n + 1 ≤ maxLen := by unfold maxLen; omega
  go_wp2_with (at_make; refine wpList_make_own _ rfl _ _ 29 rfl w2.heap.size 3 i0 (.int .i64 0) 1 Yba.underlying29 hi0 hz0 hz1 .i64 .i64 _ (n + 1) rfl rfl (by omega) hb8 hm8 (Nat.le_refl _) ?_; intro w3 hown hgrow)
  have hG : w.heap.size + 2 + (n + 1) ≤ w2.heap.size := HQ.out.size
  have HQ3 : Hid (Q w.heap.size (n + 1) (n + 1) w w3 F L (ptr w.heap.size) Pv Nx) :=
    HQ.out.kept ((Below.refl _ _).grown hgrow hG (fun k h => by cases h))
  have HI : Hid (Yba.prog.info? 3 = some i0 ∧ i0.size = 1) := ⟨hi0, hz1⟩
  clear HQ hgrow HS a1 hi0 hz0 hz1 hz2 hb8 hm8
  go_loopw [12, 13] (fun wt i2 wr => ∃ t : Nat, t ≤ n + 1 ∧ i2 = .int .i64 t ∧ wt = .slice (some ⟨w2.heap.size, 0, none⟩) (cnt i t) (n + 1) ∧ wr.ownsRow w2.heap.size 3 1 (.slice (some ⟨w2.heap.size, 0, none⟩) (cnt i t) (n + 1)) (cnt i t) (row i t) ∧
      w2.heap.size < wr.heap.size ∧ Q w.heap.size (n + 1) (n + 1) w wr F L (ptr w.heap.size) Pv Nx)
    (fun _ i2 _ => n + 1 - (intOf i2).toNat)
  case atStart => exact ⟨0, Nat.zero_le _, rfl, by simp [cnt], by simpa [cnt, row] using hown, own_lt hown, HQ3.out⟩
  case round =>
    obtain ⟨t, ht, rfl, rfl, hown2, hlt2, hQ⟩ := hrel
    clear hown HQ3
    have hcl := @cnt_le i t
    by_cases hlt : t < n + 1
    · by_cases e : t = i
      · have e2 : ((t : Int) != (i : Int)) = false := by simp [e]
        have HE : Hid (t = i) := e
        have HO : Hid (_ ∧ _) := ⟨hown2, hQ⟩
        clear e hown2 hQ
        go_wp2
        go_roundw
        case rel =>
          obtain ⟨o1, o2⟩ := HO.out
          exact ⟨t + 1, by omega, by go_num, by rw [cnt_miss HE.out], by rw [cnt_miss HE.out, row_miss HE.out]; exact o1, hlt2, o2⟩
        case measure => simp [intOf]; omega
      · have e2 : ((t : Int) != (i : Int)) = true := by simp; omega
        have hct : cnt i t + 1 ≤ n + 1 := by omega
        have HO : Hid _ := hQ
        clear hQ
        go_wp2_with (at_builtin; refine wpList_append_fits _ rfl _ _ 29 rfl w2.heap.size 3 i0 1 Yba.underlying29 HI.out.1 HI.out.2 w2.heap.size (cnt i t) (n + 1) (row i t) rfl (hown2.alloc _) ⟨wr.heap.size, 0, none⟩ 1 1 [.int .i64 t] rfl rfl ?c1 ?c2 hct ?_)
        case c1 => exact cell_one_new _ _ _
        case c2 => intro u hu; simp at hu; subst hu; rfl
        intro w4 hown4 hgrow4
        have hb4 : Below (w.heap.size + 2 + (n + 1)) wr w4 := ((Below.refl _ _).alloc (by omega) _).grown hgrow4 (by simp; omega) (fun k h => by cases h; omega)
        have hs4 := hb4.size
        have HQ4 : Hid _ := HO.out.kept hb4
        have HO4 : Hid _ := hown4
        clear hown4 hgrow4 hb4 hown2 HO
        go_wp2
        go_roundw
        case rel => exact ⟨t + 1, by omega, by go_num, by rw [cnt_hit e], by rw [cnt_hit e, row_hit e]; exact HO4.out, by omega, HQ4.out⟩
        case measure => simp [intOf]; omega
    · have et : t = n + 1 := by omega
      have ec : cnt i t = n := by rw [et, cnt_end hic]; rfl
      have HT : Hid (t = n + 1) := et
      have hct : cnt i t + 1 ≤ n + 1 := by omega
      have HC : Hid (cnt i t = n) := ec
      have HO : Hid _ := hQ
      clear hQ et ec
      go_wp2_with (at_builtin; refine wpList_append_fits _ rfl _ _ 29 rfl w2.heap.size 3 i0 1 Yba.underlying29 HI.out.1 HI.out.2 w2.heap.size (cnt i t) (n + 1) (row i t) rfl (hown2.alloc _) ⟨wr.heap.size, 0, none⟩ 1 1 [.int .i64 i] rfl rfl ?d1 ?d2 hct ?_)
      case d1 => exact cell_one_new _ _ _
      case d2 => intro u hu; simp at hu; subst hu; rfl
      intro w4 hown4 hgrow4
      have hb4 : Below (w.heap.size + 2 + (n + 1)) wr w4 := ((Below.refl _ _).alloc (by omega) _).grown hgrow4 (by simp; omega) (fun k h => by cases h; omega)
      have HQ4 : Hid _ := HO.out.kept hb4
      have HO4 : Hid (w4.ownsRow w2.heap.size 3 1 (.slice (some ⟨w2.heap.size, 0, none⟩) (cnt i t + 1) (n + 1)) (cnt i t + 1) (row i t ++ [.int .i64 i])) := hown4
      clear hown4 hgrow4 hb4 hown2 HO
      go_wp2_with fail
      refine (check w.heap.size (n + 1) (cnt i t + 1) (n + 1) w2.heap.size (wb n (oth i) i) w w4 _ _ _ _ (by omega) (by omega) HQ4.out (by rw [HC.out]; exact HL.out) (fun j hj => by rw [HO4.out.cellAt j (by omega)]; exact brow_at HC.out hj)).mono ?_
      rintro e w' ⟨rfl, hw⟩
      cases hw
      go_wp2
      go_ret
      exact ⟨rfl, HQ4.out.below⟩

end Go.Proofs.Ybulkbrmm.Qu

/-
  The walk of 'LawS3405BUnlink'.
-/
import Derived.Test.YbulkbrmmState
import Derived.Deep.Cut
import Derived.WalkSpells
namespace Go.Proofs.Ybulkbrmm.Qu
open Go.ChangeShapes Go.WideShapes Go.ChangeAt Go.RowKit

theorem info3 : (Yba.prog.info? 3).map (fun i => (i.zero, i.size, i.bytes)) = some (some (.int .i64 0), 1, 8) := by kernel_rfl

/-- How many of the first k are others than i. -/
def cnt (i k : Nat) : Nat := if k ≤ i then k else k - 1
theorem cnt_le {i k : Nat} : cnt i k ≤ k := by unfold cnt; split <;> omega
theorem cnt_hit {i k : Nat} (h : ¬ k = i) : cnt i (k + 1) = cnt i k + 1 := by unfold cnt; split <;> split <;> omega
theorem cnt_miss {i k : Nat} (h : k = i) : cnt i (k + 1) = cnt i k := by unfold cnt; split <;> split <;> omega
theorem oth_cnt {i k : Nat} (h : ¬ k = i) : oth i (cnt i k) = k := by unfold oth cnt; split <;> split <;> omega
theorem cnt_end {i c : Nat} (h : i < c) : cnt i c = c - 1 := by unfold cnt; split <;> omega
/-- The numbers of the others among the first k, as cells. -/
def row (i k : Nat) : List Value := (List.range (cnt i k)).map fun j => .int .i64 (oth i j : Nat)
theorem row_hit {i k : Nat} (h : ¬ k = i) : row i (k + 1) = row i k ++ [.int .i64 (k : Nat)] := by
  unfold row; rw [cnt_hit h, List.range_succ, List.map_append]; simp [oth_cnt h]
theorem row_miss {i k : Nat} (h : k = i) : row i (k + 1) = row i k := by unfold row; rw [cnt_miss h]
theorem row_at {i k j : Nat} (h : j < cnt i k) : (row i k)[j]? = some (.int .i64 (oth i j : Nat)) := by
  unfold row; simp [h]

theorem build' (c : Nat) (z : Int) (w : World) (hz : z = (c : Int)) (h1 : 1 ≤ c) (h2 : c ≤ 1025) :
    Calls Yba.prog 7 #[.int .i64 z] w fun e w' => e = .returned (.tuple #[.pointer (some ⟨w.heap.size, 0, none⟩), .slice (some ⟨w.heap.size + 1, 0, none⟩) c c]) ∧ w'.heap.size = w.heap.size + 2 + c ∧
      Q w.heap.size c c w w' (ptr w.heap.size 0) (ptr w.heap.size (c - 1)) (ptr w.heap.size) (pv0 w.heap.size) (nx0 w.heap.size c) := by
  subst hz; exact build c w h1 h2

theorem own_lt {w : World} {base e size g n cap : Nat} {xs : List Value} (h : w.ownsRow base e size (.slice (some ⟨g, 0, none⟩) n cap) n xs) : g < w.heap.size := by
  obtain ⟨_, h | ⟨g', c', cur, hv, _, hh, _⟩⟩ := h
  · simp at h
  · simp at hv
    obtain ⟨rfl, _⟩ := hv
    exact (Array.getElem?_eq_some_iff.1 hh).1

set_option maxHeartbeats 2000000 in
theorem lawU (n k i : Nat) (w : World) (hn : n ≤ 1024) (hk : k ≤ 65535) (hi : i = k % (n + 1)) :
    Calls Yba.prog 3 #[.int .u16 n, .int .u16 k] w fun e w' => e = .returned (.bool true) ∧ Below w.heap.size w w' := by
  have ei : ((k : Int) % ((n : Int) + 1)) = (i : Int) := by subst hi; rw [Int.natCast_emod]; simp
  have hic : i < n + 1 := by subst hi; exact Nat.mod_lt _ (by omega)
  clear hi
  go_enter Yba.func3, Yba.ntmps3
  go_wp2_with fail
  refine (build' (n + 1) _ w (by omega) (by omega) (by omega)).mono ?_
  rintro e w1 ⟨rfl, hs1, hQ⟩
  have a1 := hQ.arr i hic
  unfold ptr at a1
  have HQ : Hid _ := hQ
  have HS : Hid (w1.heap.size = w.heap.size + 2 + (n + 1)) := hs1
  clear hQ hs1
  go_wp2_with fail
  refine (unlink_any w.heap.size (n + 1) i w w1 hic HQ.out).mono ?_
  rintro e w2 ⟨rfl, hQ⟩
  have HQ : Hid _ := hQ
  clear hQ
  obtain ⟨i0, hi0, hz0, hz1, hz2⟩ := info_parts info3
  have hb8 : i0.bytes * (n + 1) ≤ 281474976710656 := by rw [hz2]; omega
  have hm8 : n + 1 ≤ maxLen := by unfold maxLen; omega
  go_wp2_with (at_make; refine wpList_make_own _ rfl _ _ 29 rfl w2.heap.size 3 i0 (.int .i64 0) 1 Yba.underlying29 hi0 hz0 hz1 .i64 .i64 _ (n + 1) rfl rfl (by omega) hb8 hm8 (Nat.le_refl _) ?_; intro w3 hown hgrow)
  have hG : w.heap.size + 2 + (n + 1) ≤ w2.heap.size := HQ.out.size
  have HQ3 : Hid (Q w.heap.size (n + 1) (n + 1) w w3 (f1 w.heap.size (n + 1) i) (l1 w.heap.size (n + 1) i) (ptr w.heap.size) (pv1 w.heap.size i) (nx1 w.heap.size (n + 1) i)) :=
    HQ.out.kept ((Below.refl _ _).grown hgrow hG (fun k h => by cases h))
  have HI : Hid (Yba.prog.info? 3 = some i0 ∧ i0.size = 1) := ⟨hi0, hz1⟩
  clear HQ hgrow HS a1 hi0 hz0 hz1 hz2 hb8 hm8
  go_loopw [10, 11] (fun wt i2 wr => ∃ t : Nat, t ≤ n + 1 ∧ i2 = .int .i64 t ∧ wt = .slice (some ⟨w2.heap.size, 0, none⟩) (cnt i t) (n + 1) ∧ wr.ownsRow w2.heap.size 3 1 (.slice (some ⟨w2.heap.size, 0, none⟩) (cnt i t) (n + 1)) (cnt i t) (row i t) ∧
      w2.heap.size < wr.heap.size ∧ Q w.heap.size (n + 1) (n + 1) w wr (f1 w.heap.size (n + 1) i) (l1 w.heap.size (n + 1) i) (ptr w.heap.size) (pv1 w.heap.size i) (nx1 w.heap.size (n + 1) i))
    (fun _ i2 _ => n + 1 - (intOf i2).toNat)
  case atStart => exact ⟨0, Nat.zero_le _, rfl, by simp [cnt], by simpa [cnt, row] using hown, own_lt hown, HQ3.out⟩
  case round =>
    obtain ⟨t, ht, rfl, rfl, hown2, hlt2, hQ⟩ := hrel
    clear hown HQ3
    have hcl := @cnt_le i t
    by_cases hlt : t < n + 1
    · by_cases e : t = i
      · have e2 : ((t : Int) != (i : Int)) = false := by simp [e]
        have HE : Hid (t = i) := e
        have HO : Hid (_ ∧ _) := ⟨hown2, hQ⟩
        clear e hown2 hQ
        go_wp2
        go_roundw
        case rel =>
          obtain ⟨o1, o2⟩ := HO.out
          exact ⟨t + 1, by omega, by go_num, by rw [cnt_miss HE.out], by rw [cnt_miss HE.out, row_miss HE.out]; exact o1, hlt2, o2⟩
        case measure => simp [intOf]; omega
      · have e2 : ((t : Int) != (i : Int)) = true := by simp; omega
        have hct : cnt i t + 1 ≤ n + 1 := by omega
        have HO : Hid _ := hQ
        clear hQ
        go_wp2_with (at_builtin; refine wpList_append_fits _ rfl _ _ 29 rfl w2.heap.size 3 i0 1 Yba.underlying29 HI.out.1 HI.out.2 w2.heap.size (cnt i t) (n + 1) (row i t) rfl (hown2.alloc _) ⟨wr.heap.size, 0, none⟩ 1 1 [.int .i64 t] rfl rfl ?c1 ?c2 hct ?_)
        case c1 => exact cell_one_new _ _ _
        case c2 => intro u hu; simp at hu; subst hu; rfl
        intro w4 hown4 hgrow4
        have hb4 : Below (w.heap.size + 2 + (n + 1)) wr w4 := ((Below.refl _ _).alloc (by omega) _).grown hgrow4 (by simp; omega) (fun k h => by cases h; omega)
        have hs4 := hb4.size
        have HQ4 : Hid _ := HO.out.kept hb4
        have HO4 : Hid _ := hown4
        clear hown4 hgrow4 hb4 hown2 HO
        go_wp2
        go_roundw
        case rel => exact ⟨t + 1, by omega, by go_num, by rw [cnt_hit e], by rw [cnt_hit e, row_hit e]; exact HO4.out, by omega, HQ4.out⟩
        case measure => simp [intOf]; omega
    · have et : t = n + 1 := by omega
      have p1 := hQ.prev i hic
      have p2 := hQ.next i hic
      rw [pv1_self] at p1
      rw [nx1_self] at p2
      unfold nul at p1 p2
      have HT : Hid (t = n + 1) := et
      have HO : Hid (_ ∧ _) := ⟨hown2, hQ⟩
      clear hQ hown2 et
      go_wp2_with fail
      obtain ⟨o1, o2⟩ := HO.out
      have ec : cnt i t = n + 1 - 1 := by rw [HT.out]; exact cnt_end hic
      refine (check w.heap.size (n + 1) (cnt i t) (n + 1) w2.heap.size (oth i) w wr _ _ _ _ (by omega) (by omega) o2 (by rw [ec]; exact linked_unlink w.heap.size (n + 1) i hic) (fun j hj => by rw [o1.cellAt j (by omega)]; exact row_at hj)).mono ?_
      rintro e w' ⟨rfl, hw⟩
      cases hw
      clear o1 o2 ec
      go_wp2
      go_ret
      exact ⟨rfl, HO.out.2.below⟩
end Go.Proofs.Ybulkbrmm.Qu

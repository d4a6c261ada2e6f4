/-
  Contracts of package time's functions on the road, at a Time without a monotonic reading: nsec, sec, addSec, Add (at the zero Time), After.
-/
import Derived.Test.YbulkbrkiRows
import Derived.WalkKit
import Derived.ProofKit
import Derived.Handy
import Derived.RegionTactic
import Derived.Laws.BitsAllLaws
namespace Go.Proofs.Ybulkbrki.Tm
open Go.ChangeShapes Go.WideShapes Go.ChangeAt Go.RowKit

theorem mask (n : Int) (h0 : 0 ≤ n) (h1 : n ≤ 999999999) : bits .and .u64 n 1073741823 = n := by
  rw [u64_and n 1073741823 h0 (by omega) (by omega) (by omega)]
  have : (1073741823 : Int).toNat = 2 ^ 30 - 1 := rfl
  rw [this, Nat.and_two_pow_sub_one_eq_mod, Nat.mod_eq_of_lt (by omega)]
  omega
theorem top (n : Int) (h0 : 0 ≤ n) (h1 : n ≤ 999999999) : bits .and .u64 n 9223372036854775808 = 0 := by
  rw [u64_and n 9223372036854775808 h0 (by omega) (by omega) (by omega)]
  have : (9223372036854775808 : Int).toNat = 2 ^ 63 := rfl
  rw [this, nat_bit, Nat.div_eq_of_lt (by omega)]
  rfl
theorem notTop (n : Int) (h0 : 0 ≤ n) (h1 : n ≤ 999999999) : (bits .and .u64 n 9223372036854775808 != 0) = false := by rw [top n h0 h1]; rfl
theorem clear0 : bits .andNot .u64 0 1073741823 = 0 := by
  rw [u64_andNot 0 1073741823 (by omega) (by omega) (by omega) (by omega)]; simp
theorem or0 (n : Int) (h0 : 0 ≤ n) (h1 : n ≤ 999999999) : bits .or .u64 0 n = n := by
  rw [u64_or 0 n (by omega) (by omega) h0 (by omega)]; simp; omega
theorem and00 (n m : Int) (h0 : 0 ≤ n) (h1 : n ≤ 999999999) (k0 : 0 ≤ m) (k1 : m ≤ 999999999) : (bits .and .u64 (bits .and .u64 n m) 9223372036854775808 != 0) = false := by
  have hh : bits .and .u64 n m = ((n.toNat &&& m.toNat : Nat) : Int) := u64_and n m h0 (by omega) k0 (by omega)
  have := @Nat.and_le_left n.toNat m.toNat
  rw [hh]
  exact notTop _ (by omega) (by omega)

theorem nsec (b o : Nat) (wl : Int) (w : World) (h : w.cell? ⟨b, o, none⟩ = some (.int .u64 wl)) (h0 : 0 ≤ wl) (h1 : wl ≤ 999999999) :
    Calls Yba.prog 14 #[.pointer (some ⟨b, o, none⟩)] w fun e w' => e = .returned (.int .i32 wl) ∧ w' = w := by
  have hm := mask wl h0 h1
  go_enter Yba.func14, Yba.ntmps14
  go_wp2
  go_ret
  exact ⟨rfl, rfl⟩

theorem sec (b o : Nat) (wl ex : Int) (w : World) (h : w.cell? ⟨b, o, none⟩ = some (.int .u64 wl)) (h1 : w.cell? ⟨b, o + 1, none⟩ = some (.int .i64 ex)) (h2 : 0 ≤ wl) (h3 : wl ≤ 999999999) :
    Calls Yba.prog 19 #[.pointer (some ⟨b, o, none⟩)] w fun e w' => e = .returned (.int .i64 ex) ∧ w' = w := by
  have hm := notTop wl h2 h3
  go_enter Yba.func19, Yba.ntmps19
  go_wp2
  go_ret
  exact ⟨rfl, rfl⟩

theorem addSec (b o : Nat) (wl d : Int) (w : World) (h : w.cell? ⟨b, o, none⟩ = some (.int .u64 wl)) (h1 : w.cell? ⟨b, o + 1, none⟩ = some (.int .i64 0)) (f1 : w.frozen? ⟨b, o + 1, none⟩ = false) (h2 : 0 ≤ wl) (h3 : wl ≤ 999999999)
    (hd : -9300000000 ≤ d) (hd' : d ≤ 9300000000) :
    Calls Yba.prog 15 #[.pointer (some ⟨b, o, none⟩), .int .i64 d] w fun e w' => e = .returned (.tuple #[]) ∧ w' = w.setCell ⟨b, o + 1, none⟩ (.int .i64 d) := by
  have hm := notTop wl h2 h3
  go_enter Yba.func15, Yba.ntmps15
  go_wp2
  go_end0
  exact ⟨rfl, rfl⟩

theorem tdiv_neg (d : Int) (h : d < 0) : d.tdiv 1000000000 = -((-d) / 1000000000) := by
  have e : d = -(-d) := by omega
  have h' : 0 ≤ -d := by omega
  generalize -d = x at e h'
  subst e
  rw [Int.neg_tdiv, Int.tdiv_eq_ediv_of_nonneg h']
theorem tmod_neg (d : Int) (h : d < 0) : d.tmod 1000000000 = -((-d) % 1000000000) := by
  have e : d = -(-d) := by omega
  have h' : 0 ≤ -d := by omega
  generalize -d = x at e h'
  subst e
  rw [Int.neg_tmod, Int.tmod_eq_emod_of_nonneg h']

theorem addHigh (d : Int) (w : World) (h0 : 0 ≤ d) (h1 : d ≤ 9223372036854775807) :
    Calls Yba.prog 9 #[.agg #[.int .u64 0, .int .i64 0, .pointer none], .int .i64 d] w fun e w' => e = .returned (.agg #[.int .u64 (d % 1000000000), .int .i64 (d / 1000000000), .pointer none]) ∧ Below w.heap.size w w' := by
  have hc := clear0
  have ho := or0 (d % 1000000000) (by omega) (by omega)
  have hm := notTop (d % 1000000000) (by omega) (by omega)
  go_enter Yba.func9, Yba.ntmps9
  go_wp2_with fail
  refine (nsec _ _ 0 _ (by simp [go_sem]) (by omega) (by omega)).mono ?_
  rintro e w' ⟨rfl, rfl⟩
  go_wp2_with fail
  refine (addSec _ _ (d % 1000000000) _ _ (by simp [go_sem]) (by simp [go_sem]) (by simp [go_sem]) (by omega) (by omega) (by omega) (by omega)).mono ?_
  rintro e w' ⟨rfl, rfl⟩
  go_wp2
  exact bodyPost_ret (v := .agg #[.int .u64 (d % 1000000000), .int .i64 (d / 1000000000), .pointer none]) (by simp [results, Yba.results9, go_sem]) rfl ⟨rfl, by go_grown⟩

theorem addNought (d q : Int) (w : World) (h0 : d < 0) (h1 : -9223372036854775808 ≤ d) (hq : q = d.tdiv 1000000000) (hr : d.tmod 1000000000 = 0) :
    Calls Yba.prog 9 #[.agg #[.int .u64 0, .int .i64 0, .pointer none], .int .i64 d] w fun e w' => e = .returned (.agg #[.int .u64 0, .int .i64 q, .pointer none]) ∧ Below w.heap.size w w' := by
  have hc := clear0
  have ho := or0 0 (by omega) (by omega)
  have hm := notTop 0 (by omega) (by omega)
  have q1 : -9300000000 ≤ d.tdiv 1000000000 := by rw [tdiv_neg d h0]; omega
  have q2 : d.tdiv 1000000000 ≤ 0 := by rw [tdiv_neg d h0]; omega
  subst hq
  go_enter Yba.func9, Yba.ntmps9
  go_wp2_with fail
  refine (nsec _ _ 0 _ (by simp [go_sem]) (by omega) (by omega)).mono ?_
  rintro e w' ⟨rfl, rfl⟩
  go_wp2_with fail
  refine (addSec _ _ 0 _ _ (by simp [go_sem]) (by simp [go_sem]) (by simp [go_sem]) (by omega) (by omega) (by omega) (by omega)).mono ?_
  rintro e w' ⟨rfl, rfl⟩
  go_wp2
  exact bodyPost_ret (v := .agg #[.int .u64 0, .int .i64 (d.tdiv 1000000000), .pointer none]) (by simp [results, Yba.results9, go_sem]) rfl ⟨rfl, by go_grown⟩

theorem addLow (d : Int) (w : World) (h0 : d < 0) (h1 : -9223372036854775808 ≤ d) (hr : d.tmod 1000000000 < 0) :
    Calls Yba.prog 9 #[.agg #[.int .u64 0, .int .i64 0, .pointer none], .int .i64 d] w fun e w' => e = .returned (.agg #[.int .u64 (d.tmod 1000000000 + 1000000000), .int .i64 (d.tdiv 1000000000 - 1), .pointer none]) ∧ Below w.heap.size w w' := by
  have hc := clear0
  have q1 : -9299999999 ≤ d.tdiv 1000000000 := by rw [tdiv_neg d h0]; omega
  have q2 : d.tdiv 1000000000 ≤ 0 := by rw [tdiv_neg d h0]; omega
  have r1 : -999999999 ≤ d.tmod 1000000000 := by rw [tmod_neg d h0]; omega
  have ho := or0 (d.tmod 1000000000 + 1000000000) (by omega) (by omega)
  have hm := notTop (d.tmod 1000000000 + 1000000000) (by omega) (by omega)
  go_enter Yba.func9, Yba.ntmps9
  go_wp2_with fail
  refine (nsec _ _ 0 _ (by simp [go_sem]) (by omega) (by omega)).mono ?_
  rintro e w' ⟨rfl, rfl⟩
  go_wp2_with fail
  refine (addSec _ _ (d.tmod 1000000000 + 1000000000) _ _ (by simp [go_sem]) (by simp [go_sem]) (by simp [go_sem]) (by omega) (by omega) (by omega) (by omega)).mono ?_
  rintro e w' ⟨rfl, rfl⟩
  go_wp2
  exact bodyPost_ret (v := .agg #[.int .u64 (d.tmod 1000000000 + 1000000000), .int .i64 (d.tdiv 1000000000 - 1), .pointer none]) (by simp [results, Yba.results9, go_sem]) rfl ⟨rfl, by go_grown⟩

/-- 'time.Time{}.Add(d)': the second and the nanosecond of d, cut downwards. -/
theorem add (d : Int) (w : World) (h0 : -9223372036854775808 ≤ d) (h1 : d ≤ 9223372036854775807) :
    Calls Yba.prog 9 #[.agg #[.int .u64 0, .int .i64 0, .pointer none], .int .i64 d] w fun e w' => e = .returned (.agg #[.int .u64 (d % 1000000000), .int .i64 (d / 1000000000), .pointer none]) ∧ Below w.heap.size w w' := by
  by_cases hd : 0 ≤ d
  · exact addHigh d w hd h1
  · have hd' : d < 0 := by omega
    by_cases hr : d.tmod 1000000000 = 0
    · have e1 : d % 1000000000 = 0 := by rw [tmod_neg d hd'] at hr; omega
      have e2 : d / 1000000000 = d.tdiv 1000000000 := by rw [tmod_neg d hd'] at hr; rw [tdiv_neg d hd']; omega
      rw [e1, e2]
      exact addNought d _ w hd' h0 rfl hr
    · have hr' : d.tmod 1000000000 < 0 := by rw [tmod_neg d hd'] at hr ⊢; omega
      have e1 : d % 1000000000 = d.tmod 1000000000 + 1000000000 := by rw [tmod_neg d hd'] at hr ⊢; omega
      have e2 : d / 1000000000 = d.tdiv 1000000000 - 1 := by rw [tmod_neg d hd'] at hr; rw [tdiv_neg d hd']; omega
      rw [e1, e2]
      exact addLow d w hd' h0 hr'

theorem afterLess (m y sm sy : Int) (w : World) (m0 : 0 ≤ m) (m1 : m ≤ 999999999) (y0 : 0 ≤ y) (y1 : y ≤ 999999999) (hs : sy < sm) :
    Calls Yba.prog 17 #[.agg #[.int .u64 m, .int .i64 sm, .pointer none], .agg #[.int .u64 y, .int .i64 sy, .pointer none]] w fun e w' => e = .returned (.bool true) ∧
      w' = (w.alloc (.cells #[.int .u64 m, .int .i64 sm, .pointer none] 34)).alloc (.cells #[.int .u64 y, .int .i64 sy, .pointer none] 34) := by
  have hm := and00 m y m0 m1 y0 y1
  go_enter Yba.func17, Yba.ntmps17
  go_wp2_with fail
  refine (sec _ _ m sm _ (by simp [go_sem]) (by simp [go_sem]) m0 m1).mono ?_
  rintro e w' ⟨rfl, rfl⟩
  go_wp2_with fail
  refine (sec _ _ y sy _ (by simp [go_sem]) (by simp [go_sem]) y0 y1).mono ?_
  rintro e w' ⟨rfl, rfl⟩
  go_wp2
  go_ret
  exact ⟨rfl, rfl⟩

theorem afterMore (m y sm sy : Int) (w : World) (m0 : 0 ≤ m) (m1 : m ≤ 999999999) (y0 : 0 ≤ y) (y1 : y ≤ 999999999) (hs : sm < sy) :
    Calls Yba.prog 17 #[.agg #[.int .u64 m, .int .i64 sm, .pointer none], .agg #[.int .u64 y, .int .i64 sy, .pointer none]] w fun e w' => e = .returned (.bool (decide (sy < sm))) ∧
      w' = (w.alloc (.cells #[.int .u64 m, .int .i64 sm, .pointer none] 34)).alloc (.cells #[.int .u64 y, .int .i64 sy, .pointer none] 34) := by
  have hm := and00 m y m0 m1 y0 y1
  go_enter Yba.func17, Yba.ntmps17
  go_wp2_with fail
  refine (sec _ _ m sm _ (by simp [go_sem]) (by simp [go_sem]) m0 m1).mono ?_
  rintro e w' ⟨rfl, rfl⟩
  go_wp2_with fail
  refine (sec _ _ y sy _ (by simp [go_sem]) (by simp [go_sem]) y0 y1).mono ?_
  rintro e w' ⟨rfl, rfl⟩
  go_wp2
  go_ret
  exact ⟨rfl, rfl⟩

theorem afterSame (m y sm : Int) (w : World) (m0 : 0 ≤ m) (m1 : m ≤ 999999999) (y0 : 0 ≤ y) (y1 : y ≤ 999999999) :
    Calls Yba.prog 17 #[.agg #[.int .u64 m, .int .i64 sm, .pointer none], .agg #[.int .u64 y, .int .i64 sm, .pointer none]] w fun e w' => e = .returned (.bool (decide (y < m))) ∧
      w' = (w.alloc (.cells #[.int .u64 m, .int .i64 sm, .pointer none] 34)).alloc (.cells #[.int .u64 y, .int .i64 sm, .pointer none] 34) := by
  have hm := and00 m y m0 m1 y0 y1
  go_enter Yba.func17, Yba.ntmps17
  go_wp2_with fail
  refine (sec _ _ m sm _ (by simp [go_sem]) (by simp [go_sem]) m0 m1).mono ?_
  rintro e w' ⟨rfl, rfl⟩
  go_wp2_with fail
  refine (sec _ _ y sm _ (by simp [go_sem]) (by simp [go_sem]) y0 y1).mono ?_
  rintro e w' ⟨rfl, rfl⟩
  go_wp2_with fail
  refine (nsec _ _ m _ (by simp [go_sem]) m0 m1).mono ?_
  rintro e w' ⟨rfl, rfl⟩
  go_wp2_with fail
  refine (nsec _ _ y _ (by simp [go_sem]) y0 y1).mono ?_
  rintro e w' ⟨rfl, rfl⟩
  go_wp2
  go_ret
  exact ⟨rfl, rfl⟩

/-- 'x.After(y)' at two such Times. -/
theorem after (m y sm sy : Int) (w : World) (m0 : 0 ≤ m) (m1 : m ≤ 999999999) (y0 : 0 ≤ y) (y1 : y ≤ 999999999) :
    Calls Yba.prog 17 #[.agg #[.int .u64 m, .int .i64 sm, .pointer none], .agg #[.int .u64 y, .int .i64 sy, .pointer none]] w fun e w' => e = .returned (.bool (decide (sy < sm ∨ sy = sm ∧ y < m))) ∧
      w' = (w.alloc (.cells #[.int .u64 m, .int .i64 sm, .pointer none] 34)).alloc (.cells #[.int .u64 y, .int .i64 sy, .pointer none] 34) := by
  by_cases h1 : sy < sm
  · rw [decide_eq_true (p := (sy < sm ∨ sy = sm ∧ y < m)) (.inl h1)]; exact afterLess m y sm sy w m0 m1 y0 y1 h1
  · by_cases h2 : sm < sy
    · rw [show decide (sy < sm ∨ sy = sm ∧ y < m) = decide (sy < sm) from by rw [decide_eq_false, decide_eq_false h1]; omega]; exact afterMore m y sm sy w m0 m1 y0 y1 h2
    · have h3 : sy = sm := by omega
      subst h3
      have e : decide (sy < sy ∨ sy = sy ∧ y < m) = decide (y < m) := by by_cases h : y < m <;> simp [h]
      rw [e]
      exact afterSame m y sy w m0 m1 y0 y1

/-- The order of the Times is the order of the numbers. -/
theorem order (m y : Int) : decide (y / 1000000000 < m / 1000000000 ∨ y / 1000000000 = m / 1000000000 ∧ y % 1000000000 < m % 1000000000) = decide (y < m) := by
  by_cases h : y < m
  · rw [decide_eq_true h, decide_eq_true]; omega
  · rw [decide_eq_false h, decide_eq_false]; omega

theorem afterOf (m y : Int) (w : World) :
    Calls Yba.prog 17 #[.agg #[.int .u64 (m % 1000000000), .int .i64 (m / 1000000000), .pointer none], .agg #[.int .u64 (y % 1000000000), .int .i64 (y / 1000000000), .pointer none]] w fun e w' => e = .returned (.bool (decide (y < m))) ∧
      w' = (w.alloc (.cells #[.int .u64 (m % 1000000000), .int .i64 (m / 1000000000), .pointer none] 34)).alloc (.cells #[.int .u64 (y % 1000000000), .int .i64 (y / 1000000000), .pointer none] 34) := by
  rw [← order m y]
  exact after _ _ _ _ w (by omega) (by omega) (by omega) (by omega)
end Go.Proofs.Ybulkbrki.Tm

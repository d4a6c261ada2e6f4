/-
  The contract of '(fund.holdings).in'.
-/
import Derived.Test.YbulkbrkiTime
import Derived.Deep.RegionHeld3
import Derived.Deep.QuietTactic
import Derived.BigQuiet
import Derived.WalkSmall
namespace Go.Proofs.Ybulkbrki.In
open Go.ChangeShapes Go.WideShapes Go.ChangeAt Go.RowKit

/-- Cell after cell, what the row of classes at block g holds. -/
def Row (w : World) (g n : Nat) (K I : Nat → ByteArray) (Y : Nat → Bool) : Prop :=
  ∀ j, j < n → w.cell? ⟨g, j * 4, none⟩ = some (.string ⟨#[]⟩) ∧ w.cell? ⟨g, j * 4 + 1, none⟩ = some (.string (K j)) ∧ w.cell? ⟨g, j * 4 + 2, none⟩ = some (.string (I j)) ∧ w.cell? ⟨g, j * 4 + 3, none⟩ = some (.bool (Y j))

/-- Is the position in this class? -/
def hit (pk pi : ByteArray) (y m : Int) (k i : ByteArray) (wy : Bool) : Bool := (pk.toList == k.toList) && (i.toList.isEmpty || ((pi.toList == i.toList) && !(wy && decide (y < m))))
theorem hit_kind {pk pi : ByteArray} {y m : Int} {k i : ByteArray} {wy : Bool} (h : (!pk.toList == k.toList) = true) : hit pk pi y m k i wy = false := by
  unfold hit; cases e : (pk.toList == k.toList) <;> simp_all
theorem hit_whole {pk pi : ByteArray} {y m : Int} {k i : ByteArray} {wy : Bool} (h : (!pk.toList == k.toList) = false) (h2 : i.toList.isEmpty = true) : hit pk pi y m k i wy = true := by
  unfold hit; cases e : (pk.toList == k.toList) <;> simp_all
theorem hit_other {pk pi : ByteArray} {y m : Int} {k i : ByteArray} {wy : Bool} (h2 : i.toList.isEmpty = false) (h3 : (pi.toList == i.toList) = false) : hit pk pi y m k i wy = false := by
  unfold hit; rw [h2, h3]; simp
theorem hit_any {pk pi : ByteArray} {y m : Int} {k i : ByteArray} {wy : Bool} (h : (!pk.toList == k.toList) = false) (h3 : (pi.toList == i.toList) = true) (h4 : wy = false) : hit pk pi y m k i wy = true := by
  unfold hit; rw [h3, h4]; cases e : (pk.toList == k.toList) <;> simp_all
theorem hit_late {pk pi : ByteArray} {y m : Int} {k i : ByteArray} {wy : Bool} (h2 : i.toList.isEmpty = false) (h4 : wy = true) (h5 : y < m) : hit pk pi y m k i wy = false := by
  unfold hit; rw [h2, h4, decide_eq_true h5]; simp
theorem hit_soon {pk pi : ByteArray} {y m : Int} {k i : ByteArray} {wy : Bool} (h : (!pk.toList == k.toList) = false) (h3 : (pi.toList == i.toList) = true) (h5 : ¬ y < m) : hit pk pi y m k i wy = true := by
  unfold hit; rw [h3, decide_eq_false h5]; cases e : (pk.toList == k.toList) <;> simp_all
/-- Is one of the first n so? -/
def anyHit (f : Nat → Bool) : Nat → Bool
  | 0 => false
  | n + 1 => anyHit f n || f n
theorem anyHit_true (f : Nat → Bool) (k : Nat) (hk : f k = true) : ∀ n, k < n → anyHit f n = true
  | 0, h => by omega
  | n + 1, h => by
    unfold anyHit
    by_cases e : k = n
    · subst e; simp [hk]
    · rw [anyHit_true f k hk n (by omega)]; rfl
theorem anyHit_next {f : Nat → Bool} {k : Nat} (h : anyHit f k = false) (hk : f k = false) : anyHit f (k + 1) = false := by
  unfold anyHit; rw [h, hk]; rfl
theorem ret_bool {a b : Bool} (h : a = b) : Ending.returned (.bool a) = .returned (.bool b) := by rw [h]

set_option maxHeartbeats 400000 in
theorem bond (y m : Int) (pk pi : ByteArray) (bb g n : Nat) (K I : Nat → ByteArray) (Y : Nat → Bool) (w : World) (hn : n ≤ 1024)
    (hrow : Row w g n K I Y) (hg : g < w.heap.size) (hbb : bb < w.heap.size)
    (hb3 : w.cell? ⟨bb, 3, none⟩ = some (.string pi)) (hb11 : w.cell? ⟨bb, 11, none⟩ = some (.int .u64 (m % 1000000000))) (hb12 : w.cell? ⟨bb, 12, none⟩ = some (.int .i64 (m / 1000000000))) (hb13 : w.cell? ⟨bb, 13, none⟩ = some (.pointer none)) :
    Calls Yba.prog 10 #[.agg #[.string ⟨#[]⟩, .int .i64 0, .int .i64 0, .pointer none, .int .i64 0, .int .i64 0, .pointer none, .bool false, .int .i64 0, .int .i64 0, .pointer none, .int .i64 0, .int .i64 0, .pointer none, .int .i64 0, .int .i64 0, .pointer none, .int .i64 0, .int .i64 0, .pointer none, .int .i64 0, .int .i64 0, .pointer none, .slice none 0 0, .slice none 0 0, .int .u64 (y % 1000000000), .int .i64 (y / 1000000000), .pointer none],
      .agg #[.string pk, .string ⟨#[]⟩, .int .i64 0, .int .i64 0, .pointer none, .int .i64 0, .int .i64 0, .pointer none, .pointer none, .int .i64 0, .int .i64 0, .pointer none, .int .i64 0, .int .i64 0, .pointer none, .string ⟨#[]⟩, .pointer (some ⟨bb, 0, none⟩)],
      .slice (some ⟨g, 0, none⟩) n n] w fun e w' => e = .returned (.bool (anyHit (fun j => hit pk pi y m (K j) (I j) (Y j)) n)) ∧ Below w.heap.size w w' := by
  go_enter Yba.func10, Yba.ntmps10
  go_wp2
  obtain ⟨W, hW⟩ : ∃ W, W = (w.alloc (.cells #[.string ⟨#[]⟩, .int .i64 0, .int .i64 0, .pointer none, .int .i64 0, .int .i64 0, .pointer none, .bool false, .int .i64 0, .int .i64 0, .pointer none, .int .i64 0, .int .i64 0, .pointer none, .int .i64 0, .int .i64 0, .pointer none, .int .i64 0, .int .i64 0, .pointer none, .int .i64 0, .int .i64 0, .pointer none, .slice none 0 0, .slice none 0 0, .int .u64 (y % 1000000000), .int .i64 (y / 1000000000), .pointer none] 45)).alloc (.cells #[.string pk, .string ⟨#[]⟩, .int .i64 0, .int .i64 0, .pointer none, .int .i64 0, .int .i64 0, .pointer none, .pointer none, .int .i64 0, .int .i64 0, .pointer none, .int .i64 0, .int .i64 0, .pointer none, .string ⟨#[]⟩, .pointer (some ⟨bb, 0, none⟩)] 51) := ⟨_, rfl⟩
  have hWB : Below w.heap.size w W := by rw [hW]; go_grown
  have hWs : W.heap.size = w.heap.size + 2 := by rw [hW]; simp
  have q25 : W.cell? ⟨w.heap.size, 25, none⟩ = some (.int .u64 (y % 1000000000)) := by rw [hW]; simp [go_sem]
  have q26 : W.cell? ⟨w.heap.size, 26, none⟩ = some (.int .i64 (y / 1000000000)) := by rw [hW]; simp [go_sem]
  have q27 : W.cell? ⟨w.heap.size, 27, none⟩ = some (.pointer none) := by rw [hW]; simp [go_sem]
  have p0 : W.cell? ⟨w.heap.size + 1, 0, none⟩ = some (.string pk) := by rw [hW]; simp [go_sem]
  have p16 : W.cell? ⟨w.heap.size + 1, 16, none⟩ = some (.pointer (some ⟨bb, 0, none⟩)) := by rw [hW]; simp [go_sem]
  rw [← hW]
  clear hW
  have HS : Hid (W.heap.size = w.heap.size + 2) := hWs
  clear hWs
  go_loopw [11] (fun i wr => ∃ k : Nat, k ≤ n ∧ i = .int .i64 k ∧ anyHit (fun j => hit pk pi y m (K j) (I j) (Y j)) k = false ∧ Below (w.heap.size + 2) W wr)
    (fun i _ => n - (intOf i).toNat)
  case atStart => exact ⟨0, Nat.zero_le _, rfl, rfl, Below.refl _ _⟩
  case round =>
    obtain ⟨k, hk, rfl, HA0, hb⟩ := hrel
    have HA : Hid _ := HA0
    clear HA0
    have HSZ : w.heap.size + 2 ≤ wr.heap.size := by have := hb.size; have := HS.out; omega
    have q25 := (hb.cell (p := ⟨w.heap.size, 25, none⟩) (by simp)).trans q25
    have q26 := (hb.cell (p := ⟨w.heap.size, 26, none⟩) (by simp)).trans q26
    have q27 := (hb.cell (p := ⟨w.heap.size, 27, none⟩) (by simp)).trans q27
    have p0 := (hb.cell (p := ⟨w.heap.size + 1, 0, none⟩) (by simp)).trans p0
    have p16 := (hb.cell (p := ⟨w.heap.size + 1, 16, none⟩) (by simp)).trans p16
    have hb3 := ((hb.cell (p := ⟨bb, 3, none⟩) (by simp; omega)).trans (hWB.cell (by simpa using hbb))).trans hb3
    have hb11 := ((hb.cell (p := ⟨bb, 11, none⟩) (by simp; omega)).trans (hWB.cell (by simpa using hbb))).trans hb11
    have hb12 := ((hb.cell (p := ⟨bb, 12, none⟩) (by simp; omega)).trans (hWB.cell (by simpa using hbb))).trans hb12
    have hb13 := ((hb.cell (p := ⟨bb, 13, none⟩) (by simp; omega)).trans (hWB.cell (by simpa using hbb))).trans hb13
    have z0 : w.heap.size < wr.heap.size := by omega
    have z1 : w.heap.size + 1 < wr.heap.size := by omega
    have z2 : bb < wr.heap.size := by omega
    have z3 : g < wr.heap.size := by omega
    by_cases hlt : k < n
    · obtain ⟨c0, c1, c2, c3⟩ := hrow k hlt
      have c0 := ((hb.cell (p := ⟨g, k * 4, none⟩) (by simp; omega)).trans (hWB.cell (by simpa using hg))).trans c0
      have c1 := ((hb.cell (p := ⟨g, k * 4 + 1, none⟩) (by simp; omega)).trans (hWB.cell (by simpa using hg))).trans c1
      have c2 := ((hb.cell (p := ⟨g, k * 4 + 2, none⟩) (by simp; omega)).trans (hWB.cell (by simpa using hg))).trans c2
      have c3 := ((hb.cell (p := ⟨g, k * 4 + 3, none⟩) (by simp; omega)).trans (hWB.cell (by simpa using hg))).trans c3
      have hbn : ∀ o, Below (w.heap.size + 2) W (wr.alloc o) := fun o => hb.alloc HSZ o
      by_cases h1 : (!pk.toList == (K k).toList) = true
      · go_wp2
        go_roundw
        case rel => exact ⟨k + 1, by omega, by go_num, anyHit_next HA.out (hit_kind h1), hbn _⟩
        case measure => simp [intOf]; omega
      · have h1 : (!pk.toList == (K k).toList) = false := by simpa using h1
        by_cases h2 : (I k).toList.isEmpty = true
        · go_wp2
          go_ret
          exact ⟨ret_bool (anyHit_true _ k (hit_whole h1 h2) n hlt).symm, hWB.trans ((hbn _).mono (by omega))⟩
        · have h2 : (I k).toList.isEmpty = false := by simpa using h2
          by_cases h3 : (pi.toList == (I k).toList) = true
          · by_cases h4 : Y k = true
            · have y1 : bb < wr.heap.size + 1 := by omega
              have y2 : bb < wr.heap.size + 1 + 1 := by omega
              have y3 : w.heap.size < wr.heap.size + 1 := by omega
              have y4 : w.heap.size < wr.heap.size + 1 + 1 := by omega
              go_wp2
              go_region_held3 (fun w' => w'.cell? ⟨w.heap.size + 1, 16, none⟩ = some (.pointer (some ⟨bb, 0, none⟩)) ∧ w'.cell? ⟨bb, 3, none⟩ = some (.string pi) ∧ w'.cell? ⟨wr.heap.size, 2, none⟩ = some (.string (I k)) ∧ w'.cell? ⟨wr.heap.size, 3, none⟩ = some (.bool true) ∧
                  w'.cell? ⟨bb, 11, none⟩ = some (.int .u64 (m % 1000000000)) ∧ w'.cell? ⟨bb, 12, none⟩ = some (.int .i64 (m / 1000000000)) ∧ w'.cell? ⟨bb, 13, none⟩ = some (.pointer none) ∧
                  w'.cell? ⟨w.heap.size, 25, none⟩ = some (.int .u64 (y % 1000000000)) ∧ w'.cell? ⟨w.heap.size, 26, none⟩ = some (.int .i64 (y / 1000000000)) ∧ w'.cell? ⟨w.heap.size, 27, none⟩ = some (.pointer none)) (simp [go_sem, World.cell?_alloc_past, *])
                (first | (go_at_call 17; refine (Tm.afterOf m y _).mono ?_; rintro e w' ⟨rfl, rfl⟩))
              rename_i hHeld
              clear hHeld
              go_wp2
              · have h5 : (!decide (y < m)) = true := by assumption
                go_ret
                exact ⟨ret_bool (anyHit_true _ k (hit_soon h1 h3 (by simpa using h5)) n hlt).symm, hWB.trans ((((((hbn _).alloc (by simp; omega) _).alloc (by simp; omega) _).drew)).mono (by omega))⟩
              · have h5 : (!decide (y < m)) = false := by assumption
                go_roundw
                case rel => exact ⟨k + 1, by omega, by go_num, anyHit_next HA.out (hit_late h2 h4 (by simpa using h5)), (((hbn _).alloc (by simp; omega) _).alloc (by simp; omega) _).drew⟩
                case measure => simp [intOf]; omega
            · have h4 : Y k = false := by simpa using h4
              go_wp2
              go_quiet (fail)
              go_wp2
              go_ret
              exact ⟨ret_bool (anyHit_true _ k (hit_any h1 h3 h4) n hlt).symm, hWB.trans ((below_drewN (hbn _) _).mono (by omega))⟩
          · have h3 : (pi.toList == (I k).toList) = false := by simpa using h3
            go_wp2
            go_quiet (fail)
            go_wp2
            go_roundw
            case rel => exact ⟨k + 1, by omega, by go_num, anyHit_next HA.out (hit_other h2 h3), below_drewN (hbn _) _⟩
            case measure => simp [intOf]; omega
    · go_wp2
      go_ret
      have e : k = n := by omega
      subst e
      exact ⟨ret_bool HA.out.symm, hWB.trans (hb.mono (by omega))⟩
set_option maxHeartbeats 400000 in
theorem noBond (y : Int) (pk : ByteArray) (g n : Nat) (K I : Nat → ByteArray) (Y : Nat → Bool) (w : World) (hn : n ≤ 1024)
    (hrow : Row w g n K I Y) (hg : g < w.heap.size) (hI : ∀ j, j < n → (!pk.toList == (K j).toList) = false → (I j).toList.isEmpty = true) :
    Calls Yba.prog 10 #[.agg #[.string ⟨#[]⟩, .int .i64 0, .int .i64 0, .pointer none, .int .i64 0, .int .i64 0, .pointer none, .bool false, .int .i64 0, .int .i64 0, .pointer none, .int .i64 0, .int .i64 0, .pointer none, .int .i64 0, .int .i64 0, .pointer none, .int .i64 0, .int .i64 0, .pointer none, .int .i64 0, .int .i64 0, .pointer none, .slice none 0 0, .slice none 0 0, .int .u64 (y % 1000000000), .int .i64 (y / 1000000000), .pointer none],
      .agg #[.string pk, .string ⟨#[]⟩, .int .i64 0, .int .i64 0, .pointer none, .int .i64 0, .int .i64 0, .pointer none, .pointer none, .int .i64 0, .int .i64 0, .pointer none, .int .i64 0, .int .i64 0, .pointer none, .string ⟨#[]⟩, .pointer none],
      .slice (some ⟨g, 0, none⟩) n n] w fun e w' => e = .returned (.bool (anyHit (fun j => pk.toList == (K j).toList) n)) ∧ Below w.heap.size w w' := by
  go_enter Yba.func10, Yba.ntmps10
  go_wp2
  obtain ⟨W, hW⟩ : ∃ W, W = (w.alloc (.cells #[.string ⟨#[]⟩, .int .i64 0, .int .i64 0, .pointer none, .int .i64 0, .int .i64 0, .pointer none, .bool false, .int .i64 0, .int .i64 0, .pointer none, .int .i64 0, .int .i64 0, .pointer none, .int .i64 0, .int .i64 0, .pointer none, .int .i64 0, .int .i64 0, .pointer none, .int .i64 0, .int .i64 0, .pointer none, .slice none 0 0, .slice none 0 0, .int .u64 (y % 1000000000), .int .i64 (y / 1000000000), .pointer none] 45)).alloc (.cells #[.string pk, .string ⟨#[]⟩, .int .i64 0, .int .i64 0, .pointer none, .int .i64 0, .int .i64 0, .pointer none, .pointer none, .int .i64 0, .int .i64 0, .pointer none, .int .i64 0, .int .i64 0, .pointer none, .string ⟨#[]⟩, .pointer none] 51) := ⟨_, rfl⟩
  have hWB : Below w.heap.size w W := by rw [hW]; go_grown
  have hWs : W.heap.size = w.heap.size + 2 := by rw [hW]; simp
  have q25 : W.cell? ⟨w.heap.size, 25, none⟩ = some (.int .u64 (y % 1000000000)) := by rw [hW]; simp [go_sem]
  have q26 : W.cell? ⟨w.heap.size, 26, none⟩ = some (.int .i64 (y / 1000000000)) := by rw [hW]; simp [go_sem]
  have q27 : W.cell? ⟨w.heap.size, 27, none⟩ = some (.pointer none) := by rw [hW]; simp [go_sem]
  have p0 : W.cell? ⟨w.heap.size + 1, 0, none⟩ = some (.string pk) := by rw [hW]; simp [go_sem]
  have p16 : W.cell? ⟨w.heap.size + 1, 16, none⟩ = some (.pointer none) := by rw [hW]; simp [go_sem]
  rw [← hW]
  clear hW
  have HS : Hid (W.heap.size = w.heap.size + 2) := hWs
  clear hWs
  go_loopw [11] (fun i wr => ∃ k : Nat, k ≤ n ∧ i = .int .i64 k ∧ anyHit (fun j => pk.toList == (K j).toList) k = false ∧ Below (w.heap.size + 2) W wr)
    (fun i _ => n - (intOf i).toNat)
  case atStart => exact ⟨0, Nat.zero_le _, rfl, rfl, Below.refl _ _⟩
  case round =>
    obtain ⟨k, hk, rfl, HA0, hb⟩ := hrel
    have HA : Hid _ := HA0
    clear HA0
    have HSZ : w.heap.size + 2 ≤ wr.heap.size := by have := hb.size; have := HS.out; omega
    have q25 := (hb.cell (p := ⟨w.heap.size, 25, none⟩) (by simp)).trans q25
    have q26 := (hb.cell (p := ⟨w.heap.size, 26, none⟩) (by simp)).trans q26
    have q27 := (hb.cell (p := ⟨w.heap.size, 27, none⟩) (by simp)).trans q27
    have p0 := (hb.cell (p := ⟨w.heap.size + 1, 0, none⟩) (by simp)).trans p0
    have p16 := (hb.cell (p := ⟨w.heap.size + 1, 16, none⟩) (by simp)).trans p16
    have z0 : w.heap.size < wr.heap.size := by omega
    have z1 : w.heap.size + 1 < wr.heap.size := by omega
    have z3 : g < wr.heap.size := by omega
    by_cases hlt : k < n
    · obtain ⟨c0, c1, c2, c3⟩ := hrow k hlt
      have c0 := ((hb.cell (p := ⟨g, k * 4, none⟩) (by simp; omega)).trans (hWB.cell (by simpa using hg))).trans c0
      have c1 := ((hb.cell (p := ⟨g, k * 4 + 1, none⟩) (by simp; omega)).trans (hWB.cell (by simpa using hg))).trans c1
      have c2 := ((hb.cell (p := ⟨g, k * 4 + 2, none⟩) (by simp; omega)).trans (hWB.cell (by simpa using hg))).trans c2
      have c3 := ((hb.cell (p := ⟨g, k * 4 + 3, none⟩) (by simp; omega)).trans (hWB.cell (by simpa using hg))).trans c3
      have hbn : ∀ o, Below (w.heap.size + 2) W (wr.alloc o) := fun o => hb.alloc HSZ o
      by_cases h1 : (!pk.toList == (K k).toList) = true
      · go_wp2
        go_roundw
        case rel => exact ⟨k + 1, by omega, by go_num, anyHit_next HA.out (by simpa using h1), hbn _⟩
        case measure => simp [intOf]; omega
      · have h1 : (!pk.toList == (K k).toList) = false := by simpa using h1
        have h2 := hI k hlt h1
        have h3 : (pk.toList == (K k).toList) = true := by simpa using h1
        have H3 : Hid ((pk.toList == (K k).toList) = true) := h3
        clear h3
        go_wp2
        go_ret
        exact ⟨ret_bool (anyHit_true _ k H3.out n hlt).symm, hWB.trans ((hbn _).mono (by omega))⟩
    · go_wp2
      go_ret
      have e : k = n := by omega
      subst e
      exact ⟨ret_bool HA.out.symm, hWB.trans (hb.mono (by omega))⟩
end Go.Proofs.Ybulkbrki.In

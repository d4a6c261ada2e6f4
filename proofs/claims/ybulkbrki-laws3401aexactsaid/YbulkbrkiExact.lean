/-
  The walk of 'fund.LawS3401AExact'.
-/
import Derived.Test.YbulkbrkiNoBond
namespace Go.Proofs.Ybulkbrki.Exact
open Go.ChangeShapes Go.WideShapes Go.ChangeAt Go.RowKit Go.Deep Cls NoBond

/-- Is the position in this class, in the law's own order of the tests? -/
theorem hit_flip {pk pi k i : ByteArray} {y m : Int} {wy : Bool} : In.hit pk pi y m k i wy = ((k.toList == pk.toList) && (i.toList.isEmpty || ((i.toList == pi.toList) && (!wy || decide (m ≤ y))))) := by
  unfold In.hit
  rw [beq_flip pk.toList, beq_flip pi.toList]
  have e : decide (m ≤ y) = !decide (y < m) := by by_cases h : y < m <;> simp [h] <;> omega
  rw [e]
  cases wy <;> cases decide (y < m) <;> rfl
theorem h_kind {pk pi k i : ByteArray} {y m : Int} {wy : Bool} (h : (k.toList == pk.toList) = false) : In.hit pk pi y m k i wy = false := by rw [hit_flip, h]; rfl
theorem h_whole {pk pi k i : ByteArray} {y m : Int} {wy : Bool} (h : (k.toList == pk.toList) = true) (h2 : i.toList.isEmpty = true) : In.hit pk pi y m k i wy = true := by rw [hit_flip, h, h2]; rfl
theorem h_other {pk pi k i : ByteArray} {y m : Int} {wy : Bool} (h2 : i.toList.isEmpty = false) (h3 : (i.toList == pi.toList) = false) : In.hit pk pi y m k i wy = false := by rw [hit_flip, h2, h3]; simp
theorem h_any {pk pi k i : ByteArray} {y m : Int} {wy : Bool} (h : (k.toList == pk.toList) = true) (h3 : (i.toList == pi.toList) = true) (h4 : wy = false) : In.hit pk pi y m k i wy = true := by rw [hit_flip, h, h3, h4]; simp
theorem h_late {pk pi k i : ByteArray} {y m : Int} {wy : Bool} (h2 : i.toList.isEmpty = false) (h4 : wy = true) (h5 : ¬ m ≤ y) : In.hit pk pi y m k i wy = false := by rw [hit_flip, h2, h4, decide_eq_false h5]; simp
theorem h_soon {pk pi k i : ByteArray} {y m : Int} {wy : Bool} (h : (k.toList == pk.toList) = true) (h3 : (i.toList == pi.toList) = true) (h5 : m ≤ y) : In.hit pk pi y m k i wy = true := by rw [hit_flip, h, h3, decide_eq_true h5]; simp

theorem stepB {w wr : World} {g n k : Nat} {K I : Nat → ByteArray} {Y : Nat → Bool} (f : Fill w wr g n k K I Y) (hg : w.heap.size ≤ g) (hk : k < n) (o : Obj) (s : Bool) (hs : Y k = s) :
    Fill w (((((wr.setCell ⟨g, k * 4, none⟩ (.string ⟨#[]⟩)).setCell ⟨g, k * 4 + 1, none⟩ (.string (K k))).setCell ⟨g, k * 4 + 2, none⟩ (.string (I k))).setCell ⟨g, k * 4 + 3, none⟩ (.bool s)).alloc o) g n (k + 1) K I Y := by
  subst hs; exact f.step hg hk o

set_option maxHeartbeats 1000000 in
theorem full (b off len cap : Nat) (X Y : Nat → Int) (B : Nat → Bool) (a1 a2 a3 a4 : Int) (w : World) (hlen : len ≤ 1024) (hb : b < w.heap.size)
    (hc : ∀ i, i < len → w.cell? ⟨b, off + i * 3, none⟩ = some (.int .u8 (X i)) ∧ w.cell? ⟨b, off + i * 3 + 1, none⟩ = some (.int .u8 (Y i)) ∧ w.cell? ⟨b, off + i * 3 + 2, none⟩ = some (.bool (B i)) ∧ (0 ≤ X i ∧ X i ≤ 255) ∧ (0 ≤ Y i ∧ Y i ≤ 255))
    (w1 : (Lit.int .u8 a1).wf = true) (w2 : (Lit.int .u8 a2).wf = true) (w3 : (Lit.int .i64 a3).wf = true) (w4 : (Lit.int .i64 a4).wf = true) :
    Calls Yba.prog 3 #[.slice (some ⟨b, off, none⟩) len cap, .int .u8 a1, .int .u8 a2, .int .i64 a3, .int .i64 a4] w fun e w' => e = .returned (.bool true) ∧ Below w.heap.size w w' := by
  have hmk := make30 len hlen
  obtain ⟨b1, b1'⟩ := bounds_u8 w1
  obtain ⟨b2, b2'⟩ := bounds_u8 w2
  obtain ⟨m1, m2⟩ := bounds_i64 w3
  obtain ⟨d1, d2⟩ := bounds_i64 w4
  · go_enter Yba.func3, Yba.ntmps3
    go_wp2_with (first | (go_at_call 7; refine (kind_any _ _ b1 b1').mono ?_; rintro e w' ⟨rfl, hw⟩; cases hw.symm) | (go_at_call 8; refine (issuer_any _ _ b2 b2').mono ?_; rintro e w' ⟨rfl, hw⟩; cases hw.symm))
    go_loopw [14, 33] (fun wt i wr => ∃ k : Nat, k ≤ len ∧ i = .int .i64 k ∧ wt = .bool (In.anyHit (fun j => In.hit (kd a1) (iss a2) a4 a3 (kd (X j)) (iss (Y j)) (B j)) k) ∧ Fill w wr w.heap.size len k (fun j => kd (X j)) (fun j => iss (Y j)) B)
      (fun _ i _ => len - (intOf i).toNat)
    case atStart => exact ⟨0, Nat.zero_le _, rfl, rfl, fill0 w len _ _ _⟩
    case round =>
      obtain ⟨k, hk, rfl, rfl, hf⟩ := hrel
      have hz := hf.lt
      have hz' : b < wr.heap.size := by omega
      by_cases hlt : k < len
      · obtain ⟨q0, q1, q2, ⟨x0, x1⟩, ⟨y0, y1⟩⟩ := hc k hlt
        have q0 := (hf.below.cell (p := ⟨b, off + k * 3, none⟩) hb).trans q0
        have q1 := (hf.below.cell (p := ⟨b, off + k * 3 + 1, none⟩) hb).trans q1
        have q2 := (hf.below.cell (p := ⟨b, off + k * 3 + 2, none⟩) hb).trans q2
        obtain ⟨v0, e0⟩ := hf.there (k * 4) (by omega)
        obtain ⟨v1, e1⟩ := hf.there (k * 4 + 1) (by omega)
        obtain ⟨v2, e2⟩ := hf.there (k * 4 + 2) (by omega)
        obtain ⟨v3, e3⟩ := hf.there (k * 4 + 3) (by omega)
        have f0 := hf.free (k * 4)
        have f1 := hf.free (k * 4 + 1)
        have f2 := hf.free (k * 4 + 2)
        have f3 := hf.free (k * 4 + 3)
        clear hmk
        by_cases t1 : ((kd (X k)).toList == (kd a1).toList) = true
        · by_cases t2 : (iss (Y k)).toList.isEmpty = true
          · skip
            go_wp2_with (first | (go_at_call 7; refine (kind_any _ _ x0 x1).mono ?_; rintro e w' ⟨rfl, rfl⟩) | (go_at_call 8; refine (issuer_any _ _ y0 y1).mono ?_; rintro e w' ⟨rfl, rfl⟩))
            go_roundw
            case rel => exact ⟨k + 1, by omega, by go_num, congrArg Value.bool (want_hit (h_whole t1 t2)), hf.step (Nat.le_refl _) hlt _⟩
            case measure => simp [intOf]; omega
          · have t2 : (iss (Y k)).toList.isEmpty = false := by simpa using t2
            by_cases t3 : ((iss (Y k)).toList == (iss a2).toList) = true
            · cases t4 : B k
              · rw [t4] at q2
                go_wp2_with (first | (go_at_call 7; refine (kind_any _ _ x0 x1).mono ?_; rintro e w' ⟨rfl, rfl⟩) | (go_at_call 8; refine (issuer_any _ _ y0 y1).mono ?_; rintro e w' ⟨rfl, rfl⟩))
                go_roundw
                case rel => exact ⟨k + 1, by omega, by go_num, congrArg Value.bool (want_hit (h_any t1 t3 t4)), stepB hf (Nat.le_refl _) hlt _ _ t4⟩
                case measure => simp [intOf]; omega
              · rw [t4] at q2
                by_cases t5 : a3 ≤ a4
                · skip
                  go_wp2_with (first | (go_at_call 7; refine (kind_any _ _ x0 x1).mono ?_; rintro e w' ⟨rfl, rfl⟩) | (go_at_call 8; refine (issuer_any _ _ y0 y1).mono ?_; rintro e w' ⟨rfl, rfl⟩))
                  go_roundw
                  case rel => exact ⟨k + 1, by omega, by go_num, congrArg Value.bool (want_hit (h_soon t1 t3 t5)), stepB hf (Nat.le_refl _) hlt _ _ t4⟩
                  case measure => simp [intOf]; omega
                · have t5' : a4 < a3 := by omega
                  clear t5
                  go_wp2_with (first | (go_at_call 7; refine (kind_any _ _ x0 x1).mono ?_; rintro e w' ⟨rfl, rfl⟩) | (go_at_call 8; refine (issuer_any _ _ y0 y1).mono ?_; rintro e w' ⟨rfl, rfl⟩))
                  go_roundw
                  case rel => exact ⟨k + 1, by omega, by go_num, congrArg Value.bool (want_next (h_late t2 t4 (by omega))), stepB hf (Nat.le_refl _) hlt _ _ t4⟩
                  case measure => simp [intOf]; omega
            · have t3 : ((iss (Y k)).toList == (iss a2).toList) = false := by simpa using t3
              go_wp2_with (first | (go_at_call 7; refine (kind_any _ _ x0 x1).mono ?_; rintro e w' ⟨rfl, rfl⟩) | (go_at_call 8; refine (issuer_any _ _ y0 y1).mono ?_; rintro e w' ⟨rfl, rfl⟩))
              go_roundw
              case rel => exact ⟨k + 1, by omega, by go_num, congrArg Value.bool (want_next (h_other t2 t3)), hf.step (Nat.le_refl _) hlt _⟩
              case measure => simp [intOf]; omega
        · have t1 : ((kd (X k)).toList == (kd a1).toList) = false := by simpa using t1
          go_wp2_with (first | (go_at_call 7; refine (kind_any _ _ x0 x1).mono ?_; rintro e w' ⟨rfl, rfl⟩) | (go_at_call 8; refine (issuer_any _ _ y0 y1).mono ?_; rintro e w' ⟨rfl, rfl⟩))
          go_roundw
          case rel => exact ⟨k + 1, by omega, by go_num, congrArg Value.bool (want_next (h_kind t1)), hf.step (Nat.le_refl _) hlt _⟩
          case measure => simp [intOf]; omega
      · have ek : k = len := by omega
        have HE : Hid (k = len) := ek
        clear hmk hc ek
        go_wp2_with fail
        refine (Tm.add a4 _ d1 d2).mono ?_
        rintro e u ⟨rfl, hbu⟩
        simp only []
        go_at_K
        iterate 7 go_step
        refine Big.wpList_store_new rfl 45 _ _ rfl _ _ _ _ rfl rfl (by kernel_rfl) (by kernel_rfl) (by kernel_rfl) ?_
        go_upto_region 19 with fail
        go_wp2_with fail
        refine (Tm.add a3 _ m1 m2).mono ?_
        rintro e u1 ⟨rfl, hbu1⟩
        have hA : u1.heap[u.heap.size]? = some (.cells #[.string ⟨#[]⟩, .int .i64 0, .int .i64 0, .pointer none, .int .i64 0, .int .i64 0, .pointer none, .bool false, .int .i64 0, .int .i64 0, .pointer none, .int .i64 0, .int .i64 0, .pointer none, .int .i64 0, .int .i64 0, .pointer none, .int .i64 0, .int .i64 0, .pointer none, .int .i64 0, .int .i64 0, .pointer none, .slice none 0 0, .slice none 0 0, .int .u64 (a4 % 1000000000), .int .i64 (a4 / 1000000000), .pointer none] 45 (0, 0)) := (hbu1.block _ (by simp only [World.size_alloc]; omega)).trans (Big.heap_two_first _ _ _ _)
        have hB : u1.heap[u.heap.size + 1]? = some (.cells #[.string (kd a1), .string ⟨#[]⟩, .int .i64 0, .int .i64 0, .pointer none, .int .i64 0, .int .i64 0, .pointer none, .pointer none, .int .i64 0, .int .i64 0, .pointer none, .int .i64 0, .int .i64 0, .pointer none, .string ⟨#[]⟩, .pointer none] 51 (0, 0)) := (hbu1.block _ (by simp)).trans (Big.heap_two_second _ _ _ _)
        have hB16 : u1.cell? ⟨u.heap.size + 1, 16, none⟩ = some (.pointer none) := by rw [cell_of_row _ _ _ _ _ _ hB]; rfl
        have hF16 : u1.frozen? ⟨u.heap.size + 1, 16, none⟩ = false := by simp [World.frozen?, hB]
        have hz1 : u.heap.size + 1 < u1.heap.size := by have := hbu1.size; simp at this; omega
        have HAB : Hid (_ ∧ _) := ⟨hA, hB⟩
        clear hA hB
        simp only []
        go_at_K
        iterate 10 go_step
        go_upto_region 20 with fail
        go_step
        obtain ⟨hA, hB⟩ := HAB.out
        refine wpList_load_row rfl 45 _ rfl _ rfl 45 _ (0, 0) _ ((Big.heap_past _ _ _ (by simp only [World.size_setCell]; omega)).trans ((Below.heap_setCell _ _ _ _ (by simp only []; omega)).trans hA)) Yba.underlying45 rfl (by kernel_rfl) ?_
        refine wpList_load_row rfl 51 _ rfl _ rfl 51 #[.string (kd a1), .string ⟨#[]⟩, .int .i64 0, .int .i64 0, .pointer none, .int .i64 0, .int .i64 0, .pointer none, .pointer none, .int .i64 0, .int .i64 0, .pointer none, .int .i64 0, .int .i64 0, .pointer none, .string ⟨#[]⟩, .pointer (some ⟨u1.heap.size, 0, none⟩)] (0, 0) _ ((Big.heap_past _ _ _ (by simp only [World.size_setCell]; omega)).trans (Big.set_row _ _ _ _ _ _ hB)) Yba.underlying51 rfl (by kernel_rfl) ?_
        clear hA hB
        go_wp2_with fail
        have s0 := hf.below.size
        have s1 := hbu.size
        have s2 := hbu1.size
        have s3 : u.heap.size + 2 ≤ u1.heap.size := by simpa using s2
        refine (In.bond a4 a3 (kd a1) (iss a2) u1.heap.size w.heap.size len (fun j => kd (X j)) (fun j => iss (Y j)) B _ hlen (row_kept (by rw [← HE.out]; exact hf.row) (fun j => ?hcell)) ?hg ?hbb ?h3 ?h11 ?h12 ?h13).mono ?_
        case hcell =>
          rw [World.cell?_alloc_lt _ _ _ (by simp only [World.size_setCell]; omega), World.cell?_setCell_other _ _ _ _ (fun e => by have := congrArg Addr.block e; simp at this; omega), hbu1.cell (p := ⟨w.heap.size, j, none⟩) (by simp only [World.size_alloc]; omega), kept2 hbu hz]
        case hg => simp only [World.size_alloc, World.size_setCell]; omega
        case hbb => simp only [World.size_alloc, World.size_setCell]; omega
        case h3 => exact Big.new_cell _ _ _ _ _ _ _ rfl
        case h11 => exact Big.new_cell _ _ _ _ _ _ _ rfl
        case h12 => exact Big.new_cell _ _ _ _ _ _ _ rfl
        case h13 => exact Big.new_cell _ _ _ _ _ _ _ rfl
        rintro e u2 ⟨rfl, hbu2⟩
        go_wp2
        go_ret
        refine ⟨In.ret_bool (eq_self (by rw [HE.out])), ?_⟩
        have B1 : Below w.heap.size w u1 := ((((hf.below.trans (hbu.mono s0)).alloc (by omega) _).alloc (by simp only [World.size_alloc]; omega) _).trans (hbu1.mono (by simp only [World.size_alloc]; omega)))
        exact ((B1.setCell (p := ⟨u.heap.size + 1, 16, none⟩) (by simp only []; omega) _).alloc (by simp only [World.size_setCell]; omega) _).trans (hbu2.mono (by simp only [World.size_alloc, World.size_setCell]; omega))

set_option maxHeartbeats 1000000 in
theorem nought (len cap : Nat) (X Y : Nat → Int) (B : Nat → Bool) (a1 a2 a3 a4 : Int) (w : World) (a : Option Addr) (hl0 : len = 0)
    (w1 : (Lit.int .u8 a1).wf = true) (w2 : (Lit.int .u8 a2).wf = true) (w3 : (Lit.int .i64 a3).wf = true) (w4 : (Lit.int .i64 a4).wf = true) :
    Calls Yba.prog 3 #[.slice a len cap, .int .u8 a1, .int .u8 a2, .int .i64 a3, .int .i64 a4] w fun e w' => e = .returned (.bool true) ∧ Below w.heap.size w w' := by
  have hlen : len ≤ 1024 := by omega
  have H0 : Hid (len = 0) := hl0
  clear hl0
  have hmk := make30 len hlen
  obtain ⟨b1, b1'⟩ := bounds_u8 w1
  obtain ⟨b2, b2'⟩ := bounds_u8 w2
  obtain ⟨m1, m2⟩ := bounds_i64 w3
  obtain ⟨d1, d2⟩ := bounds_i64 w4
  · go_enter Yba.func3, Yba.ntmps3
    go_wp2_with (first | (go_at_call 7; refine (kind_any _ _ b1 b1').mono ?_; rintro e w' ⟨rfl, hw⟩; cases hw.symm) | (go_at_call 8; refine (issuer_any _ _ b2 b2').mono ?_; rintro e w' ⟨rfl, hw⟩; cases hw.symm))
    go_loopw [14, 33] (fun wt i wr => ∃ k : Nat, k ≤ len ∧ i = .int .i64 k ∧ wt = .bool (In.anyHit (fun j => In.hit (kd a1) (iss a2) a4 a3 (kd (X j)) (iss (Y j)) (B j)) k) ∧ Fill w wr w.heap.size len k (fun j => kd (X j)) (fun j => iss (Y j)) B)
      (fun _ i _ => len - (intOf i).toNat)
    case atStart => exact ⟨0, Nat.zero_le _, rfl, rfl, fill0 w len _ _ _⟩
    case round =>
      obtain ⟨k, hk, rfl, rfl, hf⟩ := hrel
      have hz := hf.lt
      have hlt : ¬ k < len := by have := H0.out; omega
      · have ek : k = len := by omega
        have HE : Hid (k = len) := ek
        clear hmk ek
        go_wp2_with fail
        refine (Tm.add a4 _ d1 d2).mono ?_
        rintro e u ⟨rfl, hbu⟩
        simp only []
        go_at_K
        iterate 7 go_step
        refine Big.wpList_store_new rfl 45 _ _ rfl _ _ _ _ rfl rfl (by kernel_rfl) (by kernel_rfl) (by kernel_rfl) ?_
        go_upto_region 19 with fail
        go_wp2_with fail
        refine (Tm.add a3 _ m1 m2).mono ?_
        rintro e u1 ⟨rfl, hbu1⟩
        have hA : u1.heap[u.heap.size]? = some (.cells #[.string ⟨#[]⟩, .int .i64 0, .int .i64 0, .pointer none, .int .i64 0, .int .i64 0, .pointer none, .bool false, .int .i64 0, .int .i64 0, .pointer none, .int .i64 0, .int .i64 0, .pointer none, .int .i64 0, .int .i64 0, .pointer none, .int .i64 0, .int .i64 0, .pointer none, .int .i64 0, .int .i64 0, .pointer none, .slice none 0 0, .slice none 0 0, .int .u64 (a4 % 1000000000), .int .i64 (a4 / 1000000000), .pointer none] 45 (0, 0)) := (hbu1.block _ (by simp only [World.size_alloc]; omega)).trans (Big.heap_two_first _ _ _ _)
        have hB : u1.heap[u.heap.size + 1]? = some (.cells #[.string (kd a1), .string ⟨#[]⟩, .int .i64 0, .int .i64 0, .pointer none, .int .i64 0, .int .i64 0, .pointer none, .pointer none, .int .i64 0, .int .i64 0, .pointer none, .int .i64 0, .int .i64 0, .pointer none, .string ⟨#[]⟩, .pointer none] 51 (0, 0)) := (hbu1.block _ (by simp)).trans (Big.heap_two_second _ _ _ _)
        have hB16 : u1.cell? ⟨u.heap.size + 1, 16, none⟩ = some (.pointer none) := by rw [cell_of_row _ _ _ _ _ _ hB]; rfl
        have hF16 : u1.frozen? ⟨u.heap.size + 1, 16, none⟩ = false := by simp [World.frozen?, hB]
        have hz1 : u.heap.size + 1 < u1.heap.size := by have := hbu1.size; simp at this; omega
        have HAB : Hid (_ ∧ _) := ⟨hA, hB⟩
        clear hA hB
        simp only []
        go_at_K
        iterate 10 go_step
        go_upto_region 20 with fail
        go_step
        obtain ⟨hA, hB⟩ := HAB.out
        refine wpList_load_row rfl 45 _ rfl _ rfl 45 _ (0, 0) _ ((Big.heap_past _ _ _ (by simp only [World.size_setCell]; omega)).trans ((Below.heap_setCell _ _ _ _ (by simp only []; omega)).trans hA)) Yba.underlying45 rfl (by kernel_rfl) ?_
        refine wpList_load_row rfl 51 _ rfl _ rfl 51 #[.string (kd a1), .string ⟨#[]⟩, .int .i64 0, .int .i64 0, .pointer none, .int .i64 0, .int .i64 0, .pointer none, .pointer none, .int .i64 0, .int .i64 0, .pointer none, .int .i64 0, .int .i64 0, .pointer none, .string ⟨#[]⟩, .pointer (some ⟨u1.heap.size, 0, none⟩)] (0, 0) _ ((Big.heap_past _ _ _ (by simp only [World.size_setCell]; omega)).trans (Big.set_row _ _ _ _ _ _ hB)) Yba.underlying51 rfl (by kernel_rfl) ?_
        clear hA hB
        go_wp2_with fail
        have s0 := hf.below.size
        have s1 := hbu.size
        have s2 := hbu1.size
        have s3 : u.heap.size + 2 ≤ u1.heap.size := by simpa using s2
        refine (In.bond a4 a3 (kd a1) (iss a2) u1.heap.size w.heap.size len (fun j => kd (X j)) (fun j => iss (Y j)) B _ hlen (row_kept (by rw [← HE.out]; exact hf.row) (fun j => ?hcell)) ?hg ?hbb ?h3 ?h11 ?h12 ?h13).mono ?_
        case hcell =>
          rw [World.cell?_alloc_lt _ _ _ (by simp only [World.size_setCell]; omega), World.cell?_setCell_other _ _ _ _ (fun e => by have := congrArg Addr.block e; simp at this; omega), hbu1.cell (p := ⟨w.heap.size, j, none⟩) (by simp only [World.size_alloc]; omega), kept2 hbu hz]
        case hg => simp only [World.size_alloc, World.size_setCell]; omega
        case hbb => simp only [World.size_alloc, World.size_setCell]; omega
        case h3 => exact Big.new_cell _ _ _ _ _ _ _ rfl
        case h11 => exact Big.new_cell _ _ _ _ _ _ _ rfl
        case h12 => exact Big.new_cell _ _ _ _ _ _ _ rfl
        case h13 => exact Big.new_cell _ _ _ _ _ _ _ rfl
        rintro e u2 ⟨rfl, hbu2⟩
        go_wp2
        go_ret
        refine ⟨In.ret_bool (eq_self (by rw [HE.out])), ?_⟩
        have B1 : Below w.heap.size w u1 := ((((hf.below.trans (hbu.mono s0)).alloc (by omega) _).alloc (by simp only [World.size_alloc]; omega) _).trans (hbu1.mono (by simp only [World.size_alloc]; omega)))
        exact ((B1.setCell (p := ⟨u.heap.size + 1, 16, none⟩) (by simp only []; omega) _).alloc (by simp only [World.size_setCell]; omega) _).trans (hbu2.mono (by simp only [World.size_alloc, World.size_setCell]; omega))

end Go.Proofs.Ybulkbrki.Exact

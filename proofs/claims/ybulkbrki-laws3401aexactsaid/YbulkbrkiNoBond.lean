/-
  The walk of 'fund.LawS3401ANoBond'.
-/
import Derived.Test.YbulkbrkiCls
import Derived.Test.YbulkbrkiBig
import Derived.Deep.Cut
namespace Go.Proofs.Ybulkbrki.NoBond
open Go.ChangeShapes Go.WideShapes Go.ChangeAt Go.RowKit Go.Deep Cls

theorem info30 : (Yba.prog.info? 30).map (fun i => (i.zero, i.size, i.bytes)) = some (some (.agg #[.string ⟨#[]⟩, .string ⟨#[]⟩, .string ⟨#[]⟩, .bool false]), 4, 56) := by kernel_rfl

theorem make30 (n : Nat) (hn : n ≤ 1024) : ∀ w, (Instr.makeSlice 26 (.int .i64 (n : Int)) (.int .i64 (n : Int))).run Yba.prog w = .ok (.slice (some ⟨w.heap.size, 0, none⟩) n n) (w.alloc (.cells (madeCells #[.string ⟨#[]⟩, .string ⟨#[]⟩, .string ⟨#[]⟩, .bool false] (n * 4)) 30)) := by
  intro w
  obtain ⟨i0, hi, hz0, hz1, hz2⟩ := info_parts info30
  have := run_make (P := Yba.prog) w 26 30 i0 _ Yba.underlying26 hi hz0 .i64 .i64 n n (by omega) (Int.le_refl _) (by rw [hz2]; omega) (by omega)
  rw [hz1] at this
  have e : (Value.agg #[.string ⟨#[]⟩, .string ⟨#[]⟩, .string ⟨#[]⟩, .bool false]).cells = #[.string ⟨#[]⟩, .string ⟨#[]⟩, .string ⟨#[]⟩, .bool false] := rfl
  rw [e] at this
  simpa using this

theorem fill0 (w : World) (n : Nat) (K I : Nat → ByteArray) (Y : Nat → Bool) : Fill w (w.alloc (.cells (madeCells #[.string ⟨#[]⟩, .string ⟨#[]⟩, .string ⟨#[]⟩, .bool false] (n * 4)) 30)) w.heap.size n 0 K I Y := by
  refine ⟨(Below.refl _ _).alloc (Nat.le_refl _) _, by simp, fun j hj => by omega, fun j hj => ?_, fun j => by simp⟩
  rw [World.cell?_alloc_new]
  have : j < (madeCells #[Value.string ⟨#[]⟩, .string ⟨#[]⟩, .string ⟨#[]⟩, .bool false] (n * 4)).size := by rw [size_madeCells]; exact hj
  exact ⟨_, Array.getElem?_eq_getElem this⟩

/-- The issuer's kind that this law gives a class. -/
def isn (x y : Int) : ByteArray := if x % 3 = 1 then iss y else ⟨#[]⟩
theorem kd_bond {x : Int} (h : x % 3 = 1) : kd x = bond := by unfold kd; rw [if_neg (by omega), if_pos h]
theorem kd_not {x : Int} (h : ¬ x % 3 = 1) : kd x = stock ∨ kd x = cash := by
  unfold kd
  by_cases h0 : x % 3 = 0
  · rw [if_pos h0]; exact .inl rfl
  · rw [if_neg h0, if_neg h]; exact .inr rfl
theorem isn_bond {x y : Int} (h : x % 3 = 1) : isn x y = iss y := by unfold isn; rw [if_pos h]
theorem isn_not {x y : Int} (h : ¬ x % 3 = 1) : isn x y = ⟨#[]⟩ := by unfold isn; rw [if_neg h]
theorem step' {w wr : World} {g n k : Nat} {K I : Nat → ByteArray} {Y : Nat → Bool} (f : Fill w wr g n k K I Y) (hg : w.heap.size ≤ g) (hk : k < n) (o : Obj) (s : ByteArray) (hs : I k = s) :
    Fill w (((((wr.setCell ⟨g, k * 4, none⟩ (.string ⟨#[]⟩)).setCell ⟨g, k * 4 + 1, none⟩ (.string (K k))).setCell ⟨g, k * 4 + 2, none⟩ (.string s)).setCell ⟨g, k * 4 + 3, none⟩ (.bool (Y k))).alloc o) g n (k + 1) K I Y := by
  subst hs; exact f.step hg hk o
theorem toList_mk (a : Array UInt8) : (ByteArray.mk a).toList = a.toList := by
  simp [ByteArray.toList_eq]
theorem bond_iff {x : Int} : ((kd x).toList == [98, 111, 110, 100]) = true ↔ x % 3 = 1 := by
  unfold kd stock bond cash
  by_cases h0 : x % 3 = 0
  · rw [if_pos h0, toList_mk]; constructor
    · intro h; exact absurd h (by decide)
    · omega
  · by_cases h1 : x % 3 = 1
    · rw [if_neg h0, if_pos h1, toList_mk]; exact ⟨fun _ => h1, fun _ => by decide⟩
    · rw [if_neg h0, if_neg h1, toList_mk]; constructor
      · intro h; exact absurd h (by decide)
      · omega
theorem isn_yes {x y : Int} (h : ((kd x).toList == [98, 111, 110, 100]) = true) : isn x y = iss y := isn_bond (bond_iff.1 h)
theorem isn_no {x y : Int} (h : ((kd x).toList == [98, 111, 110, 100]) = false) : isn x y = ⟨#[]⟩ := isn_not (fun e => by rw [bond_iff.2 e] at h; exact absurd h (by decide))
theorem cash_list : cash.toList = [99, 97, 115, 104] := by unfold cash; rw [toList_mk]
theorem stock_list : stock.toList = [115, 116, 111, 99, 107] := by unfold stock; rw [toList_mk]
theorem beq_flip (a b : List UInt8) : (a == b) = (b == a) := by
  by_cases h : a = b
  · subst h; rfl
  · rw [beq_false_of_ne h, beq_false_of_ne (fun e => h e.symm)]
/-- A kind that is not 'bond' is met by no class that names an issuer's kind. -/
theorem whole {pk : ByteArray} (hpk : (pk.toList == [98, 111, 110, 100]) = false) {x y : Int} (h : (!pk.toList == (kd x).toList) = false) : (isn x y).toList.isEmpty = true := by
  by_cases e : ((kd x).toList == [98, 111, 110, 100]) = true
  · have e1 : (kd x).toList = [98, 111, 110, 100] := by simpa using e
    have e2 : pk.toList = (kd x).toList := by simpa using h
    rw [e2, e1] at hpk
    exact absurd hpk (by decide)
  · rw [isn_no (by simpa using e), toList_mk]; rfl
theorem want_next {f : Nat → Bool} {k : Nat} (h : f k = false) : In.anyHit f k = In.anyHit f (k + 1) := by
  show _ = (In.anyHit f k || f k); rw [h, Bool.or_false]
theorem want_hit {f : Nat → Bool} {k : Nat} (h : f k = true) : true = In.anyHit f (k + 1) := by
  show _ = (In.anyHit f k || f k); rw [h, Bool.or_true]

theorem row_kept {w w' : World} {g n : Nat} {K I : Nat → ByteArray} {Y : Nat → Bool} (h : In.Row w g n K I Y) (hc : ∀ j, w'.cell? ⟨g, j, none⟩ = w.cell? ⟨g, j, none⟩) : In.Row w' g n K I Y := by
  intro j hj
  rw [hc, hc, hc, hc]
  exact h j hj
theorem kept2 {w u : World} {g : Nat} (hb : Below w.heap.size w u) (hg : g < w.heap.size) (o1 o2 : Obj) (j : Nat) : ((u.alloc o1).alloc o2).cell? ⟨g, j, none⟩ = w.cell? ⟨g, j, none⟩ := by
  have := hb.size
  rw [World.cell?_alloc_lt _ _ _ (by simp; omega), World.cell?_alloc_lt _ _ _ (by show g < _; omega), hb.cell (p := ⟨g, j, none⟩) hg]
theorem eq_self {a b : Bool} (h : a = b) : (a == b) = true := by rw [h]; simp

set_option maxHeartbeats 800000 in
theorem fullCash (b off len cap : Nat) (X Y : Nat → Int) (B : Nat → Bool) (a1 a2 : Int) (w : World) (hlen : len ≤ 1024) (hb : b < w.heap.size)
    (hc : ∀ i, i < len → w.cell? ⟨b, off + i * 3, none⟩ = some (.int .u8 (X i)) ∧ w.cell? ⟨b, off + i * 3 + 1, none⟩ = some (.int .u8 (Y i)) ∧ w.cell? ⟨b, off + i * 3 + 2, none⟩ = some (.bool (B i)) ∧ (0 ≤ X i ∧ X i ≤ 255) ∧ (0 ≤ Y i ∧ Y i ≤ 255))
    (w1 : (Lit.int .u8 a1).wf = true) (w2 : (Lit.int .i64 a2).wf = true) (par : (a1 % 2 == 1) = true) :
    Calls Yba.prog 4 #[.slice (some ⟨b, off, none⟩) len cap, .int .u8 a1, .int .i64 a2] w fun e w' => e = .returned (.bool true) ∧ Below w.heap.size w w' := by
  have hmk := make30 len hlen
  obtain ⟨c1, c2⟩ := bounds_u8 w1
  obtain ⟨d1, d2⟩ := bounds_i64 w2
  · go_enter Yba.func4, Yba.ntmps4
    go_wp2
    go_loopw [9, 27] (fun wt i wr => ∃ k : Nat, k ≤ len ∧ i = .int .i64 k ∧ wt = .bool (In.anyHit (fun j => cash.toList == (kd (X j)).toList) k) ∧ Fill w wr w.heap.size len k (fun j => kd (X j)) (fun j => isn (X j) (Y j)) B)
      (fun _ i _ => len - (intOf i).toNat)
    case atStart => exact ⟨0, Nat.zero_le _, rfl, rfl, fill0 w len _ _ _⟩
    case round =>
      obtain ⟨k, hk, rfl, rfl, hf⟩ := hrel
      have hz := hf.lt
      have hz' : b < wr.heap.size := by omega
      by_cases hlt : k < len
      · obtain ⟨q0, q1, q2, ⟨x0, x1⟩, ⟨y0, y1⟩⟩ := hc k hlt
        have q0 := (hf.below.cell (p := ⟨b, off + k * 3, none⟩) hb).trans q0
        have q1 := (hf.below.cell (p := ⟨b, off + k * 3 + 1, none⟩) hb).trans q1
        have q2 := (hf.below.cell (p := ⟨b, off + k * 3 + 2, none⟩) hb).trans q2
        obtain ⟨v0, e0⟩ := hf.there (k * 4) (by omega)
        obtain ⟨v1, e1⟩ := hf.there (k * 4 + 1) (by omega)
        obtain ⟨v2, e2⟩ := hf.there (k * 4 + 2) (by omega)
        obtain ⟨v3, e3⟩ := hf.there (k * 4 + 3) (by omega)
        have f0 := hf.free (k * 4)
        have f1 := hf.free (k * 4 + 1)
        have f2 := hf.free (k * 4 + 2)
        have f3 := hf.free (k * 4 + 3)
        clear hmk d1 d2
        go_wp2_with (first | (go_at_call 7; refine (kind_any _ _ x0 x1).mono ?_; rintro e w' ⟨rfl, rfl⟩) | (go_at_call 8; refine (issuer_any _ _ y0 y1).mono ?_; rintro e w' ⟨rfl, rfl⟩))
        · have t1 : ((kd (X k)).toList == [98, 111, 110, 100]) = true := by assumption
          have t2 : ((kd (X k)).toList == [99, 97, 115, 104]) = true := by assumption
          go_roundw
          case rel => exact ⟨k + 1, by omega, by go_num, congrArg Value.bool (want_hit (by show (cash.toList == (kd (X k)).toList) = true; rw [cash_list, beq_flip]; exact t2)), step' hf (Nat.le_refl _) hlt _ _ (isn_yes t1)⟩
          case measure => simp [intOf]; omega
        · have t1 : ((kd (X k)).toList == [98, 111, 110, 100]) = true := by assumption
          have t2 : ((kd (X k)).toList == [99, 97, 115, 104]) = false := by assumption
          go_roundw
          case rel => exact ⟨k + 1, by omega, by go_num, congrArg Value.bool (want_next (by show (cash.toList == (kd (X k)).toList) = false; rw [cash_list, beq_flip]; exact t2)), step' hf (Nat.le_refl _) hlt _ _ (isn_yes t1)⟩
          case measure => simp [intOf]; omega
        · have t1 : ((kd (X k)).toList == [98, 111, 110, 100]) = false := by assumption
          have t2 : ((kd (X k)).toList == [99, 97, 115, 104]) = true := by assumption
          go_roundw
          case rel => exact ⟨k + 1, by omega, by go_num, congrArg Value.bool (want_hit (by show (cash.toList == (kd (X k)).toList) = true; rw [cash_list, beq_flip]; exact t2)), step' hf (Nat.le_refl _) hlt _ _ (isn_no t1)⟩
          case measure => simp [intOf]; omega
        · have t1 : ((kd (X k)).toList == [98, 111, 110, 100]) = false := by assumption
          have t2 : ((kd (X k)).toList == [99, 97, 115, 104]) = false := by assumption
          go_roundw
          case rel => exact ⟨k + 1, by omega, by go_num, congrArg Value.bool (want_next (by show (cash.toList == (kd (X k)).toList) = false; rw [cash_list, beq_flip]; exact t2)), step' hf (Nat.le_refl _) hlt _ _ (isn_no t1)⟩
          case measure => simp [intOf]; omega
      · have ek : k = len := by omega
        have HE : Hid (k = len) := ek
        clear hmk hc ek
        go_wp2_with fail
        refine (Tm.add a2 _ d1 d2).mono ?_
        rintro e u ⟨rfl, hbu⟩
        simp only []
        go_at_K
        iterate 7 go_step
        refine Big.wpList_store_new rfl 45 _ _ rfl _ _ _ _ rfl rfl (by kernel_rfl) (by kernel_rfl) (by kernel_rfl) ?_
        go_upto_region 22 with fail
        go_step
        refine wpList_load_row rfl 45 _ rfl _ rfl 45 _ (0, 0) _ (Big.heap_two_first _ _ _ _) Yba.underlying45 rfl (by kernel_rfl) ?_
        refine wpList_load_row rfl 51 _ rfl _ rfl 51 _ (0, 0) _ (Big.heap_two_second _ _ _ _) Yba.underlying51 rfl (by kernel_rfl) ?_
        go_wp2_with fail
        refine (In.noBond a2 cash w.heap.size len (fun j => kd (X j)) (fun j => isn (X j) (Y j)) B _ hlen (row_kept (by rw [← HE.out]; exact hf.row) (kept2 hbu hz _ _)) (by have := hbu.size; simp; omega) (fun j _ h => whole (by rw [cash_list]; decide) h)).mono ?_
        rintro e u2 ⟨rfl, hbu2⟩
        go_wp2
        go_ret
        refine ⟨In.ret_bool (eq_self (by rw [HE.out])), ?_⟩
        have s0 := hf.below.size
        have s1 := hbu.size
        exact ((((hf.below.trans (hbu.mono s0)).alloc (by omega) _).alloc (by simp; omega) _).trans (hbu2.mono (by simp; omega)))

set_option maxHeartbeats 800000 in
theorem fullStock (b off len cap : Nat) (X Y : Nat → Int) (B : Nat → Bool) (a1 a2 : Int) (w : World) (hlen : len ≤ 1024) (hb : b < w.heap.size)
    (hc : ∀ i, i < len → w.cell? ⟨b, off + i * 3, none⟩ = some (.int .u8 (X i)) ∧ w.cell? ⟨b, off + i * 3 + 1, none⟩ = some (.int .u8 (Y i)) ∧ w.cell? ⟨b, off + i * 3 + 2, none⟩ = some (.bool (B i)) ∧ (0 ≤ X i ∧ X i ≤ 255) ∧ (0 ≤ Y i ∧ Y i ≤ 255))
    (w1 : (Lit.int .u8 a1).wf = true) (w2 : (Lit.int .i64 a2).wf = true) (par : (a1 % 2 == 1) = false) :
    Calls Yba.prog 4 #[.slice (some ⟨b, off, none⟩) len cap, .int .u8 a1, .int .i64 a2] w fun e w' => e = .returned (.bool true) ∧ Below w.heap.size w w' := by
  have hmk := make30 len hlen
  obtain ⟨c1, c2⟩ := bounds_u8 w1
  obtain ⟨d1, d2⟩ := bounds_i64 w2
  · go_enter Yba.func4, Yba.ntmps4
    go_wp2
    go_loopw [9, 27] (fun wt i wr => ∃ k : Nat, k ≤ len ∧ i = .int .i64 k ∧ wt = .bool (In.anyHit (fun j => stock.toList == (kd (X j)).toList) k) ∧ Fill w wr w.heap.size len k (fun j => kd (X j)) (fun j => isn (X j) (Y j)) B)
      (fun _ i _ => len - (intOf i).toNat)
    case atStart => exact ⟨0, Nat.zero_le _, rfl, rfl, fill0 w len _ _ _⟩
    case round =>
      obtain ⟨k, hk, rfl, rfl, hf⟩ := hrel
      have hz := hf.lt
      have hz' : b < wr.heap.size := by omega
      by_cases hlt : k < len
      · obtain ⟨q0, q1, q2, ⟨x0, x1⟩, ⟨y0, y1⟩⟩ := hc k hlt
        have q0 := (hf.below.cell (p := ⟨b, off + k * 3, none⟩) hb).trans q0
        have q1 := (hf.below.cell (p := ⟨b, off + k * 3 + 1, none⟩) hb).trans q1
        have q2 := (hf.below.cell (p := ⟨b, off + k * 3 + 2, none⟩) hb).trans q2
        obtain ⟨v0, e0⟩ := hf.there (k * 4) (by omega)
        obtain ⟨v1, e1⟩ := hf.there (k * 4 + 1) (by omega)
        obtain ⟨v2, e2⟩ := hf.there (k * 4 + 2) (by omega)
        obtain ⟨v3, e3⟩ := hf.there (k * 4 + 3) (by omega)
        have f0 := hf.free (k * 4)
        have f1 := hf.free (k * 4 + 1)
        have f2 := hf.free (k * 4 + 2)
        have f3 := hf.free (k * 4 + 3)
        clear hmk d1 d2
        go_wp2_with (first | (go_at_call 7; refine (kind_any _ _ x0 x1).mono ?_; rintro e w' ⟨rfl, rfl⟩) | (go_at_call 8; refine (issuer_any _ _ y0 y1).mono ?_; rintro e w' ⟨rfl, rfl⟩))
        · have t1 : ((kd (X k)).toList == [98, 111, 110, 100]) = true := by assumption
          have t2 : ((kd (X k)).toList == [115, 116, 111, 99, 107]) = true := by assumption
          go_roundw
          case rel => exact ⟨k + 1, by omega, by go_num, congrArg Value.bool (want_hit (by show (stock.toList == (kd (X k)).toList) = true; rw [stock_list, beq_flip]; exact t2)), step' hf (Nat.le_refl _) hlt _ _ (isn_yes t1)⟩
          case measure => simp [intOf]; omega
        · have t1 : ((kd (X k)).toList == [98, 111, 110, 100]) = true := by assumption
          have t2 : ((kd (X k)).toList == [115, 116, 111, 99, 107]) = false := by assumption
          go_roundw
          case rel => exact ⟨k + 1, by omega, by go_num, congrArg Value.bool (want_next (by show (stock.toList == (kd (X k)).toList) = false; rw [stock_list, beq_flip]; exact t2)), step' hf (Nat.le_refl _) hlt _ _ (isn_yes t1)⟩
          case measure => simp [intOf]; omega
        · have t1 : ((kd (X k)).toList == [98, 111, 110, 100]) = false := by assumption
          have t2 : ((kd (X k)).toList == [115, 116, 111, 99, 107]) = true := by assumption
          go_roundw
          case rel => exact ⟨k + 1, by omega, by go_num, congrArg Value.bool (want_hit (by show (stock.toList == (kd (X k)).toList) = true; rw [stock_list, beq_flip]; exact t2)), step' hf (Nat.le_refl _) hlt _ _ (isn_no t1)⟩
          case measure => simp [intOf]; omega
        · have t1 : ((kd (X k)).toList == [98, 111, 110, 100]) = false := by assumption
          have t2 : ((kd (X k)).toList == [115, 116, 111, 99, 107]) = false := by assumption
          go_roundw
          case rel => exact ⟨k + 1, by omega, by go_num, congrArg Value.bool (want_next (by show (stock.toList == (kd (X k)).toList) = false; rw [stock_list, beq_flip]; exact t2)), step' hf (Nat.le_refl _) hlt _ _ (isn_no t1)⟩
          case measure => simp [intOf]; omega
      · have ek : k = len := by omega
        have HE : Hid (k = len) := ek
        clear hmk hc ek
        go_wp2_with fail
        refine (Tm.add a2 _ d1 d2).mono ?_
        rintro e u ⟨rfl, hbu⟩
        simp only []
        go_at_K
        iterate 7 go_step
        refine Big.wpList_store_new rfl 45 _ _ rfl _ _ _ _ rfl rfl (by kernel_rfl) (by kernel_rfl) (by kernel_rfl) ?_
        go_upto_region 22 with fail
        go_step
        refine wpList_load_row rfl 45 _ rfl _ rfl 45 _ (0, 0) _ (Big.heap_two_first _ _ _ _) Yba.underlying45 rfl (by kernel_rfl) ?_
        refine wpList_load_row rfl 51 _ rfl _ rfl 51 _ (0, 0) _ (Big.heap_two_second _ _ _ _) Yba.underlying51 rfl (by kernel_rfl) ?_
        go_wp2_with fail
        refine (In.noBond a2 stock w.heap.size len (fun j => kd (X j)) (fun j => isn (X j) (Y j)) B _ hlen (row_kept (by rw [← HE.out]; exact hf.row) (kept2 hbu hz _ _)) (by have := hbu.size; simp; omega) (fun j _ h => whole (by rw [stock_list]; decide) h)).mono ?_
        rintro e u2 ⟨rfl, hbu2⟩
        go_wp2
        go_ret
        refine ⟨In.ret_bool (eq_self (by rw [HE.out])), ?_⟩
        have s0 := hf.below.size
        have s1 := hbu.size
        exact ((((hf.below.trans (hbu.mono s0)).alloc (by omega) _).alloc (by simp; omega) _).trans (hbu2.mono (by simp; omega)))

set_option maxHeartbeats 800000 in
theorem noneCash (a : Option Addr) (len cap : Nat) (X Y : Nat → Int) (B : Nat → Bool) (a1 a2 : Int) (w : World) (hl0 : len = 0)
    (w1 : (Lit.int .u8 a1).wf = true) (w2 : (Lit.int .i64 a2).wf = true) (par : (a1 % 2 == 1) = true) :
    Calls Yba.prog 4 #[.slice a len cap, .int .u8 a1, .int .i64 a2] w fun e w' => e = .returned (.bool true) ∧ Below w.heap.size w w' := by
  have hlen : len ≤ 1024 := by omega
  have H0 : Hid (len = 0) := hl0
  clear hl0
  have hmk := make30 len hlen
  obtain ⟨c1, c2⟩ := bounds_u8 w1
  obtain ⟨d1, d2⟩ := bounds_i64 w2
  · go_enter Yba.func4, Yba.ntmps4
    go_wp2
    go_loopw [9, 27] (fun wt i wr => ∃ k : Nat, k ≤ len ∧ i = .int .i64 k ∧ wt = .bool (In.anyHit (fun j => cash.toList == (kd (X j)).toList) k) ∧ Fill w wr w.heap.size len k (fun j => kd (X j)) (fun j => isn (X j) (Y j)) B)
      (fun _ i _ => len - (intOf i).toNat)
    case atStart => exact ⟨0, Nat.zero_le _, rfl, rfl, fill0 w len _ _ _⟩
    case round =>
      obtain ⟨k, hk, rfl, rfl, hf⟩ := hrel
      have hz := hf.lt
      have hlt : ¬ k < len := by have := H0.out; omega
      · have ek : k = len := by omega
        have HE : Hid (k = len) := ek
        clear hmk ek
        go_wp2_with fail
        refine (Tm.add a2 _ d1 d2).mono ?_
        rintro e u ⟨rfl, hbu⟩
        simp only []
        go_at_K
        iterate 7 go_step
        refine Big.wpList_store_new rfl 45 _ _ rfl _ _ _ _ rfl rfl (by kernel_rfl) (by kernel_rfl) (by kernel_rfl) ?_
        go_upto_region 22 with fail
        go_step
        refine wpList_load_row rfl 45 _ rfl _ rfl 45 _ (0, 0) _ (Big.heap_two_first _ _ _ _) Yba.underlying45 rfl (by kernel_rfl) ?_
        refine wpList_load_row rfl 51 _ rfl _ rfl 51 _ (0, 0) _ (Big.heap_two_second _ _ _ _) Yba.underlying51 rfl (by kernel_rfl) ?_
        go_wp2_with fail
        refine (In.noBond a2 cash w.heap.size len (fun j => kd (X j)) (fun j => isn (X j) (Y j)) B _ hlen (row_kept (by rw [← HE.out]; exact hf.row) (kept2 hbu hz _ _)) (by have := hbu.size; simp; omega) (fun j _ h => whole (by rw [cash_list]; decide) h)).mono ?_
        rintro e u2 ⟨rfl, hbu2⟩
        go_wp2
        go_ret
        refine ⟨In.ret_bool (eq_self (by rw [HE.out])), ?_⟩
        have s0 := hf.below.size
        have s1 := hbu.size
        exact ((((hf.below.trans (hbu.mono s0)).alloc (by omega) _).alloc (by simp; omega) _).trans (hbu2.mono (by simp; omega)))

set_option maxHeartbeats 800000 in
theorem noneStock (a : Option Addr) (len cap : Nat) (X Y : Nat → Int) (B : Nat → Bool) (a1 a2 : Int) (w : World) (hl0 : len = 0)
    (w1 : (Lit.int .u8 a1).wf = true) (w2 : (Lit.int .i64 a2).wf = true) (par : (a1 % 2 == 1) = false) :
    Calls Yba.prog 4 #[.slice a len cap, .int .u8 a1, .int .i64 a2] w fun e w' => e = .returned (.bool true) ∧ Below w.heap.size w w' := by
  have hlen : len ≤ 1024 := by omega
  have H0 : Hid (len = 0) := hl0
  clear hl0
  have hmk := make30 len hlen
  obtain ⟨c1, c2⟩ := bounds_u8 w1
  obtain ⟨d1, d2⟩ := bounds_i64 w2
  · go_enter Yba.func4, Yba.ntmps4
    go_wp2
    go_loopw [9, 27] (fun wt i wr => ∃ k : Nat, k ≤ len ∧ i = .int .i64 k ∧ wt = .bool (In.anyHit (fun j => stock.toList == (kd (X j)).toList) k) ∧ Fill w wr w.heap.size len k (fun j => kd (X j)) (fun j => isn (X j) (Y j)) B)
      (fun _ i _ => len - (intOf i).toNat)
    case atStart => exact ⟨0, Nat.zero_le _, rfl, rfl, fill0 w len _ _ _⟩
    case round =>
      obtain ⟨k, hk, rfl, rfl, hf⟩ := hrel
      have hz := hf.lt
      have hlt : ¬ k < len := by have := H0.out; omega
      · have ek : k = len := by omega
        have HE : Hid (k = len) := ek
        clear hmk ek
        go_wp2_with fail
        refine (Tm.add a2 _ d1 d2).mono ?_
        rintro e u ⟨rfl, hbu⟩
        simp only []
        go_at_K
        iterate 7 go_step
        refine Big.wpList_store_new rfl 45 _ _ rfl _ _ _ _ rfl rfl (by kernel_rfl) (by kernel_rfl) (by kernel_rfl) ?_
        go_upto_region 22 with fail
        go_step
        refine wpList_load_row rfl 45 _ rfl _ rfl 45 _ (0, 0) _ (Big.heap_two_first _ _ _ _) Yba.underlying45 rfl (by kernel_rfl) ?_
        refine wpList_load_row rfl 51 _ rfl _ rfl 51 _ (0, 0) _ (Big.heap_two_second _ _ _ _) Yba.underlying51 rfl (by kernel_rfl) ?_
        go_wp2_with fail
        refine (In.noBond a2 stock w.heap.size len (fun j => kd (X j)) (fun j => isn (X j) (Y j)) B _ hlen (row_kept (by rw [← HE.out]; exact hf.row) (kept2 hbu hz _ _)) (by have := hbu.size; simp; omega) (fun j _ h => whole (by rw [stock_list]; decide) h)).mono ?_
        rintro e u2 ⟨rfl, hbu2⟩
        go_wp2
        go_ret
        refine ⟨In.ret_bool (eq_self (by rw [HE.out])), ?_⟩
        have s0 := hf.below.size
        have s1 := hbu.size
        exact ((((hf.below.trans (hbu.mono s0)).alloc (by omega) _).alloc (by simp; omega) _).trans (hbu2.mono (by simp; omega)))

end Go.Proofs.Ybulkbrki.NoBond

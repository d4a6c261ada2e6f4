/-
  Rows of the call's own: slices.Clone, Sort, Reverse, Equal, at whatever length (0 too).
-/
import Derived.Test.YbulkbrkwSort
import Derived.Test.YbulkbrkwShelf
import Derived.WalkKit
import Derived.ProofKit
import Derived.Lib.Walk
import Derived.Lib.SliceRun
namespace Go.Proofs.Ybulkbrkw
open Go.RowKit Go.Sort

/-- A row of the call's own, from block B on. -/
def Row (enc : Int → Value) (w : World) (B : Nat) (p : Option Addr) (n : Nat) (d : Array Int) : Prop :=
  d.size = n ∧ (n = 0 ∨ ∃ b, p = some ⟨b, 0, none⟩ ∧ B ≤ b ∧ b < w.heap.size ∧ Holds enc w b 0 d)

theorem Row.keep {enc : Int → Value} {w w' : World} {B C : Nat} {p : Option Addr} {n : Nat} {d : Array Int} (h : Row enc w B p n d) (hb : Below C w w') (hC : w.heap.size ≤ C) : Row enc w' B p n d :=
  ⟨h.1, h.2.imp id fun ⟨b, e, h1, h2, h3⟩ => ⟨b, e, h1, Nat.lt_of_lt_of_le h2 hb.size, fun k hk =>
    ⟨(World.cell?_of_block (w := w) (a := ⟨b, 0 + k, none⟩) (hb.block b (by omega))).trans (h3 k hk).1, (World.frozen?_of_block (w := w) (a := ⟨b, 0 + k, none⟩) (hb.block b (by omega))).trans (h3 k hk).2⟩⟩⟩

theorem row_of_own {k : IntKind} {e : TypeId} {w : World} {B n : Nat} {v : Value} {zs : List Int} (h : w.ownsRow B e 1 v n (zs.map (Value.int k))) :
    ∃ p cap, v = .slice p n cap ∧ Row (Value.int k) w B p n zs.toArray := by
  obtain ⟨hl, h⟩ := h
  have hz : zs.length = n := by simpa using hl
  rcases h with ⟨rfl, rfl⟩ | ⟨g, cap, cur, rfl, hB, hg, hn, hm, hs, ht⟩
  · exact ⟨none, 0, rfl, by simpa using hz, .inl rfl⟩
  · refine ⟨_, cap, rfl, by simpa using hz, .inr ⟨g, rfl, hB, ?_, ?_⟩⟩
    · exact (Array.getElem?_eq_some_iff.1 hg).1
    · intro j hj
      simp only [List.size_toArray] at hj
      have e1 : cur[j]? = some (.int k zs.toArray[j]!) := by
        have t : (cur.toList.take (n * 1))[j]? = (zs.map (Value.int k))[j]? := by rw [ht]
        rw [List.getElem?_take_of_lt (by omega)] at t
        simp only [Array.getElem?_toList, List.getElem?_map] at t
        rw [t, List.getElem?_eq_getElem hj]
        simp [getElem!_pos, hj]
      exact ⟨by simp only [World.cell?, hg, Nat.zero_add]; simpa using e1, by simp [World.frozen?, hg]⟩

theorem info24 : ∃ i, Yba.prog.info? 24 = some i ∧ i.zero = some (.int .i16 0) ∧ i.size = 1 ∧ i.bytes = 2 := by
  have h : (Yba.prog.info? 24).map (fun i => (i.zero, i.size, i.bytes)) = some (some (.int .i16 0), 1, 2) := by kernel_rfl
  cases e : Yba.prog.info? 24 with
  | none => rw [e] at h; cases h
  | some i => rw [e] at h; simp at h; exact ⟨i, rfl, h.1, h.2.1, h.2.2⟩

set_option maxHeartbeats 2000000 in
theorem clone16_some (a : Addr) (n c : Nat) (zs : List Int) (w : World) (hl : zs.length = n) (hn : n ≤ 1024) (hc : ∀ j, j < n → w.cell? (a.add j) = some (.int .i16 (zs.getD j 0))) :
    Calls Yba.prog 4 #[.slice (some a) n c] w fun e w' => ∃ p cap, e = .returned (.slice p n cap) ∧ Row (Value.int .i16) w' w.heap.size p n zs.toArray ∧ Below w.heap.size w w' := by
  obtain ⟨i0, hi, hz0, hz1, hz2⟩ := info24
  have A : Hid (∀ j, j < n → w.cell? (a.add j) = some (.int .i16 (zs.getD j 0))) := hc
  clear hc
  have q22 : ∀ (w : World) (a : Option Addr) (n c n' c' : Nat), (binOp .eql 22 (.slice a n c) (.slice none n' c')).run Yba.prog w = .ok (.bool a.isNone) w := fun w a n c n' c' => Lib.run_eql_slice_nil w _ _ a n c n' c' Yba.underlying22
  go_enter Yba.func4, Yba.ntmps4
  go_wp2_with (at_builtin; refine wpList_append_own _ rfl _ _ 22 rfl w.heap.size 24 i0 (.int .i16 0) 1 2 Yba.underlying22 hi hz0 hz1 hz2 rfl (by decide) _ _ _ rfl (World.ownsRow_made w #[] 0 (Nat.le_refl _) (Nat.zero_le _) rfl) a n c (zs.map (Value.int .i16)) rfl (by simpa using hl) ?qc2 ?qc3 (by unfold maxLen; omega) (by omega) (by simp) ?_)
  case qc2 =>
    intro j u hj
    simp only [List.getElem?_map] at hj
    cases e : zs[j]? with
    | none => rw [e] at hj; cases hj
    | some z =>
      rw [e] at hj
      have hlt := (List.getElem?_eq_some_iff.1 e).1
      cases hj
      rw [World.cell?_of_block (w := w) (w' := World.alloc w _) (Below.heap_alloc _ _ _ (World.block_lt_of_cell? w (a.add j) (A.out j (by omega)))), A.out j (by omega)]
      simp [List.getD, e]
  case qc3 =>
    intro u hu
    obtain ⟨z, _, rfl⟩ := List.mem_map.1 hu
    rfl
  intro v' w1 hown hgrow hnil
  go_wp2
  go_ret
  obtain ⟨p, cap, rfl, hr⟩ := row_of_own (by simpa using hown)
  refine ⟨p, cap, rfl, hr, ?_⟩
  exact ((Below.refl _ w).alloc (Nat.le_refl _) _).grown hgrow (by simp) (by intro k hk; simp [Value.ownBlock] at hk; omega)

theorem holds_of_arr {d : Array Int} : d = d.toList.toArray := by simp

/-- What a sort leaves. -/
theorem sorted_row {enc : Int → Value} {w : World} {B b n q : Nat} {d d' : Array Int} {os : Array Obj} (hs : d'.size = d.size) (hn : d.size = n) (hB : B ≤ b) (hb : b < w.heap.size) (hH : Holds enc w b 0 d) :
    Row enc (grow (putRow enc (Sort.ahead w q) b 0 d') os) B (some ⟨b, 0, none⟩) n d' ∧ Below B w (grow (putRow enc (Sort.ahead w q) b 0 d') os) := by
  refine ⟨⟨hs.trans hn, .inr ⟨b, rfl, hB, by simp; omega, holds_grow _ _ _ _ _ _ (by simpa using hb) (holds_putRow enc _ b 0 d d' (holds_ahead _ _ _ _ _ _ hH) hs)⟩⟩, rfl, rfl, rfl, by simp, fun k hk => ?_⟩
  rw [heap_grow_old _ _ (by simp; omega)]
  simp only [putRow, mapBlock, Array.getElem?_modify]
  rw [if_neg (by omega)]
  rfl

theorem sort16 (p : Option Addr) (n cap B : Nat) (d : Array Int) (w : World) (h : Row (Value.int .i16) w B p n d) (hn : n ≤ 1024) :
    Calls Yba.prog 5 #[.slice p n cap] w fun e w' => e = .returned (.tuple #[]) ∧ Row (Value.int .i16) w' B p n (d.toList.mergeSort fun x y => decide (x ≤ y)).toArray ∧ Below B w w' := by
  obtain ⟨hs, rfl | ⟨b, rfl, hB, hb, hH⟩⟩ := h
  · refine (I16.Sort_int_nil p cap w).mono ?_
    rintro e w' ⟨he, rfl⟩
    exact ⟨he, ⟨by simpa using hs, .inl rfl⟩, Below.refl _ _⟩
  · have := I16.slices_Sort b 0 cap d.toList w (by simpa using hH) hb (by simp; omega)
    rw [show d.toList.length = n by simpa using hs] at this
    refine this.mono ?_
    rintro e w' ⟨he, q, os, rfl⟩
    obtain ⟨r1, r2⟩ := sorted_row (os := os) (q := q) (d' := (d.toList.mergeSort fun x y => decide (x ≤ y)).toArray) (by simp) hs hB hb hH
    exact ⟨he, r1, r2⟩

theorem sort64 (p : Option Addr) (n cap B : Nat) (d : Array Int) (w : World) (h : Row (Value.int .i64) w B p n d) (hn : n ≤ 1024) :
    Calls Yba.prog 8 #[.slice p n cap] w fun e w' => e = .returned (.tuple #[]) ∧ Row (Value.int .i64) w' B p n (d.toList.mergeSort fun x y => decide (x ≤ y)).toArray ∧ Below B w w' := by
  obtain ⟨hs, rfl | ⟨b, rfl, hB, hb, hH⟩⟩ := h
  · refine (Yba.slices_Sort_int_none p cap w).mono ?_
    rintro e w' ⟨he, rfl⟩
    exact ⟨he, ⟨by simpa using hs, .inl rfl⟩, Below.refl _ _⟩
  · have := Yba.slices_Sort_int b 0 cap d.toList w (by simpa using hH) hb (by simp; omega)
    rw [show d.toList.length = n by simpa using hs] at this
    refine this.mono ?_
    rintro e w' ⟨he, q, os, rfl⟩
    obtain ⟨r1, r2⟩ := sorted_row (os := os) (q := q) (d' := (d.toList.mergeSort fun x y => decide (x ≤ y)).toArray) (by simp) hs hB hb hH
    exact ⟨he, r1, r2⟩

theorem reverse16 (p : Option Addr) (n cap B : Nat) (d : Array Int) (w : World) (h : Row (Value.int .i16) w B p n d) (hn : n ≤ 1024) :
    Calls Yba.prog 6 #[.slice p n cap] w fun e w' => e = .returned (.tuple #[]) ∧ Row (Value.int .i16) w' B p n d.toList.reverse.toArray ∧ Below B w w' := by
  obtain ⟨hs, rfl | ⟨b, rfl, hB, hb, hH⟩⟩ := h
  · refine (Yba.slices_Reverse_empty (α := Int) p cap w).mono ?_
    rintro e w' ⟨he, rfl⟩
    exact ⟨he, ⟨by simpa using hs, .inl rfl⟩, Below.refl _ _⟩
  · have := Yba.slices_Reverse (Value.int .i16) (fun _ => rfl) b 0 cap d.toList w (by simpa using hH) (by simp; omega)
    rw [show d.toList.length = n by simpa using hs] at this
    refine this.mono ?_
    rintro e w' ⟨he, q, rfl⟩
    obtain ⟨r1, r2⟩ := sorted_row (os := #[]) (q := q) (d' := d.toList.reverse.toArray) (by simp) hs hB hb hH
    rw [grow_empty] at r1 r2
    exact ⟨he, r1, r2⟩

theorem clone64 (b n c : Nat) (d : Array Int) (w : World) (hs : d.size = n) (hn : n ≤ 1024) (hH : Holds (Value.int .i64) w b 0 d) :
    Calls Yba.prog 7 #[.slice (some ⟨b, 0, none⟩) n c] w fun e w' => ∃ p cap, e = .returned (.slice p n cap) ∧ Row (Value.int .i64) w' w.heap.size p n d ∧ Below w.heap.size w w' := by
  refine (Yba.slices_Clone_int b 0 n c d.toList w (by simp; omega) (by omega) ?_).mono ?_
  · intro j hj
    have := (hH j (by simpa using hj)).1
    rw [this]
    simp only [Array.length_toList] at hj
    simp [List.getD, hj, getElem!_pos]
  · rintro e w' ⟨v', rfl, ho, _, hb⟩
    rw [List.take_of_length_le (by simp; omega)] at ho
    obtain ⟨p, cap, rfl, hr⟩ := row_of_own ho
    exact ⟨p, cap, rfl, by simpa using hr, hb⟩

theorem equal64 (p1 p2 : Option Addr) (n c1 c2 B1 B2 : Nat) (d : Array Int) (w : World) (h1 : Row (Value.int .i64) w B1 p1 n d) (h2 : Row (Value.int .i64) w B2 p2 n d) (hn : n ≤ 1024) :
    Calls Yba.prog 11 #[.slice p1 n c1, .slice p2 n c2] w fun e w' => e = .returned (.bool true) ∧ ∃ q, w' = w.drewN q := by
  obtain ⟨hs, rfl | ⟨b1, rfl, hB1, hb1, hH1⟩⟩ := h1
  · refine (Yba.slices_Equal_int_empty p1 p2 c1 0 c2 w (by omega)).mono ?_
    rintro e w' ⟨he, rfl⟩
    exact ⟨he, 0, rfl⟩
  · obtain ⟨_, rfl | ⟨b2, rfl, hB2, hb2, hH2⟩⟩ := h2
    · refine (Yba.slices_Equal_int_empty _ p2 c1 0 c2 w (by omega)).mono ?_
      rintro e w' ⟨he, rfl⟩
      exact ⟨he, 0, rfl⟩
    · refine (Yba.slices_Equal_int b1 0 n c1 b2 0 n c2 d.toList d.toList w (by simp; omega) (by simp; omega) (by omega) (by omega) ?_ ?_).mono ?_
      · intro j hj
        rw [(hH1 j (by simpa using hj)).1]
        simp only [Array.length_toList] at hj
        simp [List.getD, hj, getElem!_pos]
      · intro j hj
        rw [(hH2 j (by simpa using hj)).1]
        simp only [Array.length_toList] at hj
        simp [List.getD, hj, getElem!_pos]
      · rintro e w' ⟨he, q⟩
        exact ⟨by rw [he]; simp, q⟩
end Go.Proofs.Ybulkbrkw

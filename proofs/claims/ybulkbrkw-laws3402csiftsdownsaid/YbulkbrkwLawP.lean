/-
  Plain facts for the walk of 'LawS3402CSiftsDown': the items, their order, the fill of a new row.
-/
import Derived.Test.YbulkbrkwDown
import Derived.Test.YbulkbrkwRow
namespace Go.Proofs.Ybulkbrkw.lawS3402CSiftsDown
open Go.RowKit Go.Sort Go.Maps Hp

def IsRow (k : IntKind) (w : World) (a : Option Addr) (len cap : Nat) (zs : List Int) : Prop :=
  (a = none ∧ len = 0 ∧ cap = 0 ∧ zs = []) ∨
  ∃ x, a = some x ∧ len ≤ cap ∧ cap ≤ maxLen ∧ zs.length = cap ∧ (∀ i, i < zs.length → w.cell? (x.add i) = some (.int k (zs.getD i 0))) ∧ ∀ n ∈ zs, (Lit.int k n).wf = true

theorem IsRow.wf {k : IntKind} {w : World} {a : Option Addr} {len cap : Nat} {zs : List Int} (h : IsRow k w a len cap zs) : ∀ n ∈ zs, (Lit.int k n).wf = true := by
  rcases h with ⟨_, _, _, rfl⟩ | ⟨_, _, _, _, _, _, h⟩
  · intro n hn; cases hn
  · exact h

theorem IsRow.len {k : IntKind} {w : World} {a : Option Addr} {len cap : Nat} {zs : List Int} (h : IsRow k w a len cap zs) : (zs.take len).length = len := by
  rcases h with ⟨_, rfl, _, rfl⟩ | ⟨_, _, h, _, h2, _⟩
  · rfl
  · simp; omega

theorem clone16 (a : Option Addr) (n c : Nat) (zs : List Int) (w : World) (h : IsRow .i16 w a n c zs) (hn : n ≤ 1024) :
    Calls Yba.prog 4 #[.slice a n c] w fun e w' => ∃ p cap, e = .returned (.slice p n cap) ∧ Row (Value.int .i16) w' w.heap.size p n (zs.take n).toArray ∧ Below w.heap.size w w' := by
  have hl := h.len
  rcases h with ⟨rfl, rfl, rfl, rfl⟩ | ⟨x, rfl, hl1, hl2, hl3, hc, hw⟩
  · refine (Yba.slices_Clone_nil_f4 0 0 w).mono ?_
    rintro e w' ⟨rfl, rfl⟩
    exact ⟨none, 0, rfl, ⟨rfl, .inl rfl⟩, Below.refl _ _⟩
  · refine clone16_some x n c (zs.take n) w hl hn fun j hj => ?_
    rw [hc j (by omega)]
    simp [List.getD, List.getElem?_take_of_lt hj]

/-- The values, sorted, the greatest first. -/
def desc (zs : List Int) (n : Nat) : Array Int := ((zs.take n).mergeSort fun x y => decide (x ≤ y)).reverse.toArray

theorem desc_size {zs : List Int} {n : Nat} (h : (zs.take n).length = n) : (desc zs n).size = n := by simp only [desc, List.size_toArray, List.length_reverse, List.length_mergeSort, h]

theorem desc_wf {zs : List Int} {n : Nat} (h : ∀ x ∈ zs, (Lit.int .i16 x).wf = true) (j : Nat) (hj : j < (desc zs n).size) : -32768 ≤ (desc zs n)[j]! ∧ (desc zs n)[j]! ≤ 32767 := by
  have hm : (desc zs n)[j]! ∈ zs := by
    rw [getElem!_pos (desc zs n) j hj]
    have : (desc zs n)[j] ∈ (desc zs n).toList := by simp
    simp only [desc, List.toList_toArray, List.mem_reverse, List.mem_mergeSort] at this
    exact List.mem_of_mem_take this
  have := h _ hm
  have e1 : IntKind.i16.min = -32768 := by decide
  have e2 : IntKind.i16.max = 32767 := by decide
  simp only [Lit.wf] at this
  simp [e1, e2] at this
  omega

theorem desc_le {zs : List Int} {n : Nat} {j k : Nat} (hjk : j ≤ k) (hk : k < (desc zs n).size) : (desc zs n)[k]! ≤ (desc zs n)[j]! := by
  rcases Nat.lt_or_ge j k with l | l
  · have hp : (desc zs n).toList.Pairwise (fun a b => b ≤ a) := by
      simp only [desc, List.toList_toArray, List.pairwise_reverse]
      have := List.pairwise_mergeSort (le := fun x y : Int => decide (x ≤ y)) (by intro a b c; simp; omega) (by intro a b; simp; omega) (zs.take n)
      simpa using this
    rw [List.pairwise_iff_getElem] at hp
    have := hp j k (by simp; omega) (by simpa using hk) l
    simp only [Array.getElem_toList] at this
    rw [getElem!_pos (desc zs n) j (by omega), getElem!_pos (desc zs n) k hk]
    exact this
  · have : j = k := by omega
    subst this
    exact Int.le_refl _

/-- The k-th item. -/
def it (S : Array Int) (n k : Nat) : Int := S[k]! * 4096 + ((n : Int) - k) * 2

/-- The items with x at i. -/
def its (S : Array Int) (n i : Nat) (x : Int) : Array Int := ((List.range n).map fun k => if k = i then x else it S n k).toArray
theorem its_size (S : Array Int) (n i : Nat) (x : Int) : (its S n i x).size = n := by simp [its]
theorem its_get {S : Array Int} {n i : Nat} {x : Int} {k : Nat} (hk : k < n) : (its S n i x)[k]! = if k = i then x else it S n k := by
  rw [getElem!_pos _ k (by rw [its_size]; exact hk)]
  simp [its]

theorem it_lt {S : Array Int} {n j k : Nat} (hS : S.size = n) (hd : ∀ j k, j ≤ k → k < S.size → S[k]! ≤ S[j]!) (hjk : j < k) (hk : k < n) : it S n k < it S n j := by
  have := hd j k (by omega) (by omega)
  unfold it
  omega

theorem its_apart {S : Array Int} {n i : Nat} {x : Int} (hS : S.size = n) (hd : ∀ j k, j ≤ k → k < S.size → S[k]! ≤ S[j]!) (hx : x % 2 = 1) : Apart (its S n i x) := by
  intro a b ha hb e
  rw [its_size] at ha hb
  rw [its_get ha, its_get hb] at e
  have ev : ∀ k, it S n k % 2 = 0 := fun k => by unfold it; omega
  split at e <;> split at e
  · omega
  · have := ev b; omega
  · have := ev a; omega
  · rcases Nat.lt_trichotomy a b with l | l | l
    · have := it_lt hS hd l hb; omega
    · exact l
    · have := it_lt hS hd l ha; omega

theorem its_fits {S : Array Int} {n i : Nat} {x : Int} (hn : n ≤ 1024) (hS : S.size = n) (hw : ∀ j, j < S.size → -32768 ≤ S[j]! ∧ S[j]! ≤ 32767) (hx : -134217728 ≤ x ∧ x ≤ 134300000) : Fits (its S n i x) := by
  intro k hk
  rw [its_size] at hk
  rw [its_get hk]
  split
  · exact WalkArith.wf_i64 (by omega)
  · have := hw k (by omega)
    unfold it
    exact WalkArith.wf_i64 (by omega)

theorem its_inv {S : Array Int} {n i : Nat} {x : Int} (hS : S.size = n) (hd : ∀ j k, j ≤ k → k < S.size → S[k]! ≤ S[j]!) : Inv i i (its S n i x) (its S n i x) := by
  refine ⟨List.Perm.refl _, Nat.le_refl _, ?_, fun h => absurd rfl h⟩
  intro c h0 hc hne hp
  rw [its_size] at hc
  rw [its_get hc, its_get (by omega), if_neg hne, if_neg hp]
  exact it_lt hS hd (by omega) hc

/-- The new row, filled up to k. -/
structure Fill (w wr : World) (ib n k : Nat) (it : Nat → Int) : Prop where
  below : Below ib w wr
  lt : ib < wr.heap.size
  cell : ∀ j, j < n → wr.cell? ⟨ib, j, none⟩ = some (.int .i64 (if j < k then it j else 0))
  free : ∀ j, wr.frozen? ⟨ib, j, none⟩ = false

theorem make27 (n : Nat) (hn : n ≤ 1024) : ∀ w, (Instr.makeSlice 27 (.int .i64 (n : Int)) (.int .i64 (n : Int))).run Yba.prog w = .ok (.slice (some ⟨w.heap.size, 0, none⟩) n n) (w.alloc (.cells (madeCells #[.int .i64 0] n) 3)) := by
  intro w
  have h : (Yba.prog.info? 3).map (fun i => (i.zero, i.size, i.bytes)) = some (some (.int .i64 0), 1, 8) := by kernel_rfl
  obtain ⟨i0, hi, hz0, hz1, hz2⟩ := info_parts h
  have := run_make (P := Yba.prog) w 27 3 i0 _ Yba.underlying27 hi hz0 .i64 .i64 n n (by omega) (Int.le_refl _) (by rw [hz2]; omega) (by omega)
  rw [hz1] at this
  have e : (Value.int .i64 0).cells = #[.int .i64 0] := rfl
  rw [e] at this
  simpa using this

theorem makeMap30 (n : Nat) : ∀ w, (Instr.makeMap 30 (some (.int .i64 (n : Int)))).run Yba.prog w = .ok (.map (some w.heap.size)) (w.alloc (.map #[] 0)) := by
  intro w
  kernel_rfl

theorem fill_start (w : World) (n : Nat) (f : Nat → Int) : Fill w (w.alloc (.cells (madeCells #[.int .i64 0] n) 3)) w.heap.size n 0 f := by
  refine ⟨(Below.refl _ _).alloc (Nat.le_refl _) _, by simp, fun j hj => ?_, fun j => by simp⟩
  rw [World.cell?_alloc_new]
  have : j < (madeCells #[Value.int .i64 0] n).size := by rw [size_madeCells]; exact hj
  rw [Array.getElem?_eq_getElem this]
  simp [madeCells, Nat.mod_one]

theorem fill_step {w wr : World} {ib n k : Nat} {f : Nat → Int} (h : Fill w wr ib n k f) (hk : k < n) : Fill w (wr.setCell ⟨ib, k, none⟩ (.int .i64 (f k))) ib n (k + 1) f := by
  refine ⟨h.below.setCell (Nat.le_refl _) _, by simp only [World.size_setCell]; exact h.lt, fun j hj => ?_, fun j => by rw [World.frozen?_setCell]; exact h.free j⟩
  by_cases e : j = k
  · subst e
    rw [World.cell?_setCell_same _ _ _ (h.cell j hj), if_pos (by omega)]
  · rw [World.cell?_setCell_other _ _ _ _ (fun e' => e (congrArg Addr.off e').symm), h.cell j hj]
    by_cases l : j < k
    · rw [if_pos l, if_pos (by omega)]
    · rw [if_neg l, if_neg (by omega)]

/-- The items stand in block ib. -/
structure Own (w3 wx : World) (ib : Nat) (d : Array Int) : Prop where
  below : Below ib w3 wx
  lt : ib < wx.heap.size
  holds : Holds (Value.int .i64) wx ib 0 d

theorem own_zero {w wr : World} {ib i : Nat} {S : Array Int} {x : Int} (h : Fill w wr ib 0 0 (it S 0)) : Own w wr ib (its S 0 i x) :=
  ⟨h.below, h.lt, fun k hk => by rw [its_size] at hk; omega⟩

theorem own_set {w wr : World} {ib n i : Nat} {S : Array Int} {x : Int} (h : Fill w wr ib n n (it S n)) (hi : i < n) : Own w (wr.setCell ⟨ib, i, none⟩ (.int .i64 x)) ib (its S n i x) := by
  refine ⟨h.below.setCell (Nat.le_refl _) _, by simp only [World.size_setCell]; exact h.lt, fun k hk => ?_⟩
  rw [its_size] at hk
  rw [its_get hk, Nat.zero_add]
  refine ⟨?_, by rw [World.frozen?_setCell]; exact h.free k⟩
  by_cases e : k = i
  · subst e
    rw [World.cell?_setCell_same _ _ _ (h.cell k hk), if_pos rfl]
  · rw [World.cell?_setCell_other _ _ _ _ (fun e' => e (congrArg Addr.off e').symm), h.cell k hk, if_pos hk, if_neg e]

/-- The map, filled up to k. -/
structure MapFill (w5 wr : World) (mb k : Nat) (d : Array Int) : Prop where
  below : Below mb w5 wr
  own : ∃ D, wr.ownsMap Yba.prog 3 (plainElem (H := Unit) Yba.prog 3) mb k D ∧ Maps.size D = k ∧ (∀ j, j < k → ∀ z, D.atKey (.int .i64 d[j]!) z = .lit (.int .i64 j)) ∧ ∀ x, (∀ j, j < k → d[j]! ≠ x) → Maps.has D (.int .i64 x) = false

theorem mapFill_start (w : World) (d : Array Int) : MapFill w (w.alloc (.map #[] 0)) w.heap.size 0 d :=
  ⟨(Below.refl _ _).alloc (Nat.le_refl _) _, .map [], World.ownsMap_made _ _ _ _, rfl, fun j hj => by omega, fun x _ => rfl⟩

theorem mapFill_step {w5 wr : World} {mb k : Nat} {d : Array Int} (h : MapFill w5 wr mb k d) (hA : Apart d) (hF : Fits d) (hk : k < d.size) (hn : d.size ≤ 1024) :
    ∃ w', (Instr.mapUpdate 30 (.map (some mb)) (.int .i64 d[k]!) (.int .i64 (k : Int))).run Yba.prog wr = .ok () w' ∧ MapFill w5 w' mb (k + 1) d := by
  obtain ⟨hb, D, own, hs, hat, hno⟩ := h
  obtain ⟨w', run, own', turn⟩ := own.store law Yba.underlying30 (by unfold maxLen; omega) (keyOf_int_mk Yba.underlying3 (hF k hk)) (plainElem_int Yba.underlying3 (a := (k : Int)) (WalkArith.wf_i64 (by omega)))
  have hT := own.tidy law
  refine ⟨w', run, hb.trans ?_, _, own', ?_, ?_, ?_⟩
  · obtain ⟨es, cl, es', cl', hbk, rfl⟩ := turn
    exact ⟨rfl, rfl, rfl, by simp [ChangeMaps.setBlock], fun x hx => ChangeMaps.heap_setBlock_other hbk _ (by omega)⟩
  · rw [size_put hT, hno _ (fun j hj e => by have := hA j k (by omega) hk e; omega), hs]
    rfl
  · intro j hj z
    by_cases e : j = k
    · subst e
      rw [atKey_put_same hT.isMap (isKey _)]
    · rw [atKey_put_other (key_ne (fun e' => e (hA j k (by omega) hk e')))]
      exact hat j (by omega) z
  · intro x hx
    rw [has_put_other (key_ne (fun e => hx k (by omega) e.symm))]
    exact hno x fun j hj => hx j (by omega)

theorem heap_here {w5 wr : World} {ib mb n : Nat} {d : Array Int} (hs : d.size = n) (hib : ib < w5.heap.size) (hmb : mb = w5.heap.size) (hI : Holds (Value.int .i64) w5 ib 0 d) (h : MapFill w5 wr mb n d) :
    HM wr.heap.size ib mb n (wr.alloc (.cells #[.slice (some ⟨ib, 0, none⟩) n n, .map (some mb), .func (.func 9) #[] #[]] 34)) d := by
  obtain ⟨hb, D, own, hsz, hat, hno⟩ := h
  have hlt := own.lt
  have hle := hb.size
  refine ⟨hs, by rw [World.cell?_alloc_new]; rfl, by rw [World.cell?_alloc_new]; rfl, by rw [World.cell?_alloc_new]; rfl, ?_, ⟨D, own.alloc _, by rw [hsz, hs], fun k hk z => hat k (by omega) z⟩, by omega, by omega, by omega⟩
  exact holds_of hI (by rw [Below.heap_alloc _ _ _ (by omega)]; exact hb.block ib (by omega))

/-- Two rows with the same items are sorted alike. -/
theorem sort_eq {d d0 : Array Int} (h : d.toList.Perm d0.toList) : (d.toList.mergeSort fun x y => decide (x ≤ y)).toArray = (d0.toList.mergeSort fun x y => decide (x ≤ y)).toArray := by
  congr 1
  refine List.Perm.eq_of_pairwise (le := fun x y : Int => x ≤ y) ?_ ?_ ?_ ?_
  · intro a b _ _ h1 h2; omega
  · have := List.pairwise_mergeSort (le := fun x y : Int => decide (x ≤ y)) (by intro a b c; simp; omega) (by intro a b; simp; omega) d.toList
    simpa using this
  · have := List.pairwise_mergeSort (le := fun x y : Int => decide (x ≤ y)) (by intro a b c; simp; omega) (by intro a b; simp; omega) d0.toList
    simpa using this
  · exact ((List.mergeSort_perm _ _).trans h).trans (List.mergeSort_perm _ _).symm

theorem hm_keep {hb ib mb n C : Nat} {w w' : World} {d : Array Int} (h : HM hb ib mb n w d) (k : Below C w w') (h1 : hb < C) (h2 : ib < C) (h3 : mb < C) : HM hb ib mb n w' d := by
  obtain ⟨sz, c0, c1, c2, items, ⟨D, ⟨es, clock, hbk, F, hs, hr⟩, hat⟩, n1, n2, n3⟩ := h
  exact ⟨sz, (k.cell (p := ⟨hb, 0, none⟩) h1).trans c0, (k.cell (p := ⟨hb, 1, none⟩) h1).trans c1, (k.cell (p := ⟨hb, 2, none⟩) h1).trans c2, holds_of items (k.block ib h2),
    ⟨D, ⟨es, clock, (k.block mb h3).trans hbk, F, hs, hr⟩, hat⟩, n1, n2, n3⟩

theorem hm_len {hb ib mb n : Nat} {w : World} {d : Array Int} (h : HM hb ib mb n w d) : (Builtin.len_ #[30] 3 #[.map (some mb)]).run Yba.prog w = .ok (.int .i64 (n : Int)) w := by
  obtain ⟨D, own, hat⟩ := h.map
  rw [own.len Yba.underlying30 3, hat.1, h.sz]

theorem hm_look {hb ib mb n : Nat} {w : World} {d : Array Int} (h : HM hb ib mb n w d) (hF : Fits d) {k : Nat} (hk : k < n) :
    (Instr.lookup 30 (.map (some mb)) (.int .i64 d[k]!) true).run Yba.prog w.drew = .ok (.tuple #[.int .i64 (k : Int), .bool true]) w.drew := by
  obtain ⟨D, own, hat⟩ := h.map
  have hk' : k < d.size := by rw [h.sz]; exact hk
  obtain ⟨v, ps, run, hv⟩ := own.drew.look_ok law Yba.underlying30 (zero3 _) (plainElem_int Yba.underlying3 (a := 0) (by decide)) (keyOf_int_mk Yba.underlying3 (hF k hk'))
  rw [has_true_of_atKey (hat.2 k hk')] at run
  rw [hat.2 k hk'] at hv
  obtain ⟨a, rfl, e, _⟩ := plainElem_int_inv Yba.underlying3 hv
  have : a = (k : Int) := by
    have := congrArg Prod.fst e
    simp at this
    exact this.symm
  rw [run, this]

theorem row_carry {enc : Int → Value} {w w' : World} {B : Nat} {p : Option Addr} {n : Nat} {d : Array Int} (h : Row enc w B p n d) (hs : w.heap.size ≤ w'.heap.size) (hk : ∀ b, B ≤ b → b < w.heap.size → w'.heap[b]? = w.heap[b]?) : Row enc w' B p n d :=
  ⟨h.1, h.2.imp id fun ⟨b, e, h1, h2, h3⟩ => ⟨b, e, h1, by omega, fun k hk' =>
    ⟨(World.cell?_of_block (w := w) (a := ⟨b, 0 + k, none⟩) (hk b h1 h2)).trans (h3 k hk').1, (World.frozen?_of_block (w := w) (a := ⟨b, 0 + k, none⟩) (hk b h1 h2)).trans (h3 k hk').2⟩⟩⟩

theorem fits_perm {d d0 : Array Int} (h : d.toList.Perm d0.toList) (hF : Fits d0) : Fits d := by
  rw [fits_iff] at hF ⊢; exact fun x hx => hF x (h.mem_iff.1 hx)

theorem want_carry {enc : Int → Value} {w5 wr w7 w9 : World} {o : Obj} {B ib : Nat} {p : Option Addr} {n : Nat} {d : Array Int} (h : Row enc w5 B p n d) (L : Below w5.heap.size w5 wr) (ht : Turn ib w5.heap.size (wr.alloc o) w7) (l : Below w7.heap.size w7 w9) (hib : ib < B) : Row enc w9 B p n d := by
  have s1 := L.size
  have s2 := ht.size
  have s3 := l.size
  rw [World.size_alloc] at s2
  refine row_carry h (by omega) fun b h1 h2 => ?_
  rw [l.block b (by omega), ht.block b (by omega) (by omega), Below.heap_alloc _ _ _ (by omega), L.block b h2]

theorem below_carry {w wr w7 w9 : World} {o : Obj} {B C ib mb : Nat} (L : Below B w wr) (hB : B ≤ wr.heap.size) (ht : Turn ib mb (wr.alloc o) w7) (h1 : B ≤ ib) (h2 : B ≤ mb) (l : Below C w7 w9) (hC : B ≤ C) : Below B w w9 :=
  ((L.alloc hB o).trans (ht.below h1 h2)).trans (l.mono hC)

end Go.Proofs.Ybulkbrkw.lawS3402CSiftsDown

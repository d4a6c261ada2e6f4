/-
  The heap in memory: the struct at block hb, its items at block ib, its map at block mb. The contract of '(*leafHeap).swap'.
-/
import Derived.Test.YbulkbrkwRows
import Derived.WalkKit
import Derived.ProofKit
import Derived.Handy
import Derived.OpenShut
import Derived.Maps.OwnSet
import Derived.Sort.WalkC
import Derived.BigRegion
namespace Go.Proofs.Ybulkbrkw.Hp
open Go.RowKit Go.Sort Go.Maps

theorem law : Keyed Yba.prog 3 := int_keyed Yba.underlying3
theorem zero3 (w : World) : (zeroValue 3).run Yba.prog w = .ok (.int .i64 0) w := by kernel_rfl

/-- The map says of each item where it is. -/
def AtOk (D : DataW Unit) (d : Array Int) : Prop := Maps.size D = d.size ∧ ∀ k, k < d.size → ∀ z, D.atKey (.int .i64 d[k]!) z = .lit (.int .i64 k)

/-- w' is w but for the items' block and the map's. -/
structure Turn (ib mb : Nat) (w w' : World) : Prop where
  os : w'.os = w.os
  tape : w'.tape = w.tape
  output : w'.output = w.output
  size : w'.heap.size = w.heap.size
  block : ∀ b, b ≠ ib → b ≠ mb → w'.heap[b]? = w.heap[b]?
theorem Turn.refl (ib mb : Nat) (w : World) : Turn ib mb w w := ⟨rfl, rfl, rfl, rfl, fun _ _ _ => rfl⟩
theorem Turn.trans {ib mb : Nat} {a b c : World} (h : Turn ib mb a b) (k : Turn ib mb b c) : Turn ib mb a c :=
  ⟨k.os.trans h.os, k.tape.trans h.tape, k.output.trans h.output, k.size.trans h.size, fun x h1 h2 => (k.block x h1 h2).trans (h.block x h1 h2)⟩
theorem Turn.drew {ib mb : Nat} {a b : World} (h : Turn ib mb a b) : Turn ib mb a b.drew := ⟨h.os, h.tape, h.output, h.size, h.block⟩
theorem Turn.drewN {ib mb : Nat} {a b : World} (h : Turn ib mb a b) (n : Nat) : Turn ib mb a (b.drewN n) := ⟨h.os, h.tape, h.output, h.size, h.block⟩
theorem Turn.cell {ib mb : Nat} {a b : World} (h : Turn ib mb a b) {p : Addr} (h1 : p.block ≠ ib) (h2 : p.block ≠ mb) : b.cell? p = a.cell? p := World.cell?_of_block (w := a) (h.block p.block h1 h2)
theorem Turn.frozen {ib mb : Nat} {a b : World} (h : Turn ib mb a b) {p : Addr} (h1 : p.block ≠ ib) (h2 : p.block ≠ mb) : b.frozen? p = a.frozen? p := World.frozen?_of_block (w := a) (h.block p.block h1 h2)
theorem Turn.below {ib mb B : Nat} {a b : World} (h : Turn ib mb a b) (h1 : B ≤ ib) (h2 : B ≤ mb) : Below B a b := ⟨h.os, h.tape, h.output, Nat.le_of_eq h.size.symm, fun k hk => h.block k (by omega) (by omega)⟩
theorem Turn.set {ib mb : Nat} {a b : World} (h : Turn ib mb a b) (o : Nat) (v : Value) : Turn ib mb a (b.setCell ⟨ib, o, none⟩ v) :=
  h.trans ⟨rfl, rfl, rfl, by simp [World.setCell], fun x h1 _ => Below.heap_setCell _ _ _ _ h1⟩
theorem Turn.map {ib mb : Nat} {a b c : World} (h : Turn ib mb a b) (k : b.mapTurned c mb) : Turn ib mb a c := by
  obtain ⟨es, cl, es', cl', hb, rfl⟩ := k
  exact h.trans ⟨rfl, rfl, rfl, by simp [ChangeMaps.setBlock], fun x _ h2 => ChangeMaps.heap_setBlock_other hb _ h2⟩

/-- THE HEAP IN MEMORY holds d. -/
structure HM (hb ib mb n : Nat) (w : World) (d : Array Int) : Prop where
  sz : d.size = n
  c0 : w.cell? ⟨hb, 0, none⟩ = some (.slice (some ⟨ib, 0, none⟩) n n)
  c1 : w.cell? ⟨hb, 1, none⟩ = some (.map (some mb))
  c2 : w.cell? ⟨hb, 2, none⟩ = some (.func (.func 9) #[] #[])
  items : Holds (Value.int .i64) w ib 0 d
  map : ∃ D, w.ownsMap Yba.prog 3 (plainElem (H := Unit) Yba.prog 3) mb n D ∧ AtOk D d
  hi : hb ≠ ib
  hm : hb ≠ mb
  im : ib ≠ mb

theorem ownsMap_size {w : World} {P : Program} {k : TypeId} {R : Value → Option (DataW Unit × List MemPlace)} {b n : Nat} {D : DataW Unit} (h : w.ownsMap P k R b n D) : w.ownsMap P k R b (Maps.size D) D := by
  obtain ⟨es, clock, hb, F, hs, rfl⟩ := h
  exact ⟨es, clock, hb, F, by simp [Maps.size, length_sorted], rfl⟩

theorem HM.drewN {hb ib mb n : Nat} {w : World} {d : Array Int} (h : HM hb ib mb n w d) (q : Nat) : HM hb ib mb n (w.drewN q) d :=
  ⟨h.sz, h.c0, h.c1, h.c2, h.items, h.map, h.hi, h.hm, h.im⟩

/-- No two items are one. -/
def Apart (d : Array Int) : Prop := ∀ i j, i < d.size → j < d.size → d[i]! = d[j]! → i = j
/-- The items fit into int64. -/
def Fits (d : Array Int) : Prop := ∀ i, i < d.size → (Lit.int .i64 d[i]!).wf = true

theorem isKey (a : Int) : WideAt.IsKeyLit (.int .i64 a) := by simp [WideAt.IsKeyLit]
theorem key_ne {a b : Int} (h : a ≠ b) : (Lit.int .i64 a) ≠ .int .i64 b := fun e => h (by injection e)

theorem AtOk.swap {D : DataW Unit} {d : Array Int} (hT : Tidy D) (h : AtOk D d) (hA : Apart d) {i j : Nat} (hi : i < d.size) (hj : j < d.size) (hij : i ≠ j) :
    AtOk ((D.put (.int .i64 d[j]!) (.lit (.int .i64 i))).put (.int .i64 d[i]!) (.lit (.int .i64 j))) (swp d i j) := by
  have hne : d[i]! ≠ d[j]! := fun e => hij (hA i j hi hj e)
  have h1 : Maps.has D (.int .i64 d[j]!) = true := has_true_of_atKey (h.2 j hj)
  have h2 : Maps.has D (.int .i64 d[i]!) = true := has_true_of_atKey (h.2 i hi)
  have t1 := hT.put (isKey d[j]!) (.lit (.int .i64 i))
  refine ⟨?_, fun k hk z => ?_⟩
  · rw [size_put t1, has_put_other (key_ne hne), h2, if_pos rfl, size_put hT, h1, if_pos rfl, size_swp]
    exact h.1
  · rw [size_swp] at hk
    by_cases e1 : k = j
    · subst e1
      rw [swp_right d i k hk, atKey_put_same t1.isMap (isKey _)]
    · by_cases e2 : k = i
      · subst e2
        rw [swp_left d k j hk hij, atKey_put_other (key_ne (Ne.symm hne)), atKey_put_same hT.isMap (isKey _)]
      · have n1 : d[k]! ≠ d[i]! := fun e => e2 (hA k i hk hi e)
        have n2 : d[k]! ≠ d[j]! := fun e => e1 (hA k j hk hj e)
        rw [swp_other d i j k e2 e1, atKey_put_other (key_ne n1), atKey_put_other (key_ne n2)]
        exact h.2 k hk z

theorem holds_of {w w' : World} {ib : Nat} {d : Array Int} (h : Holds (Value.int .i64) w ib 0 d) (hb : w'.heap[ib]? = w.heap[ib]?) : Holds (Value.int .i64) w' ib 0 d := fun k hk =>
  ⟨(World.cell?_of_block (w := w) (a := ⟨ib, 0 + k, none⟩) hb).trans (h k hk).1, (World.frozen?_of_block (w := w) (a := ⟨ib, 0 + k, none⟩) hb).trans (h k hk).2⟩

theorem holds_swap {w : World} {ib : Nat} {d : Array Int} (h : Holds (Value.int .i64) w ib 0 d) {i j : Nat} (hi : i < d.size) (hj : j < d.size) (hij : i ≠ j) :
    Holds (Value.int .i64) ((w.setCell ⟨ib, i, none⟩ (.int .i64 d[j]!)).setCell ⟨ib, j, none⟩ (.int .i64 d[i]!)) ib 0 (swp d i j) := by
  intro k hk
  rw [size_swp] at hk
  have ck := h k hk
  have ci := (h i hi).1
  have cj := (h j hj).1
  simp only [Nat.zero_add] at ck ci cj ⊢
  refine ⟨?_, by rw [World.frozen?_setCell, World.frozen?_setCell]; exact ck.2⟩
  by_cases e1 : k = j
  · subst e1
    rw [swp_right d i k hk]
    exact World.cell?_setCell_same _ _ _ (by rw [World.cell?_setCell_other _ _ _ _ (fun e => hij (congrArg Addr.off e))]; exact cj)
  · rw [World.cell?_setCell_other _ _ _ _ (fun e => e1 (congrArg Addr.off e).symm)]
    by_cases e2 : k = i
    · subst e2
      rw [swp_left d k j hk hij]
      exact World.cell?_setCell_same _ _ _ ci
    · rw [World.cell?_setCell_other _ _ _ _ (fun e => e2 (congrArg Addr.off e).symm), swp_other d i j k e2 e1]
      exact ck.1

set_option maxHeartbeats 2000000 in
theorem swap (hb ib mb n i j : Nat) (w : World) (d : Array Int) (h : HM hb ib mb n w d) (hA : Apart d) (hF : Fits d) (hi : i < n) (hj : j < n) (hij : ¬ i = j) (hn : n ≤ 1024) :
    Calls Yba.prog 15 #[.pointer (some ⟨hb, 0, none⟩), .int .i64 i, .int .i64 j] w fun e w' => e = .returned (.tuple #[]) ∧ HM hb ib mb n w' (swp d i j) ∧ Turn ib mb w w' := by
  obtain ⟨sz, c0, c1, c2, items, ⟨D, hown, hat⟩, n1, n2, n3⟩ := h
  subst sz
  obtain ⟨ci, fi⟩ := items i hi
  obtain ⟨cj, fj⟩ := items j hj
  obtain ⟨x, hx⟩ : ∃ x, x = d[i]! := ⟨_, rfl⟩
  obtain ⟨y, hy⟩ : ∃ y, y = d[j]! := ⟨_, rfl⟩
  rw [← hx] at ci
  rw [← hy] at cj
  simp only [Nat.zero_add] at ci cj fi fj
  have HI : Hid (Holds (Value.int .i64) w ib 0 d) := items
  have HX : Hid (x = d[i]! ∧ y = d[j]!) := ⟨hx, hy⟩
  have HO : Hid (w.ownsMap Yba.prog 3 (plainElem (H := Unit) Yba.prog 3) mb d.size D ∧ AtOk D d) := ⟨hown, hat⟩
  have HC2 : Hid (w.cell? ⟨hb, 2, none⟩ = some (.func (.func 9) #[] #[])) := c2
  clear items hx hy hown hat c2
  have hij' : ¬ j = i := fun e => hij e.symm
  have n1' : ¬ ib = hb := fun e => n1 e.symm
  go_enter Yba.func15, Yba.ntmps15
  go_wp2
  go_region
  all_goals go_wp2
  generalize hW1 : World.drew _ = W1
  have T1 : Turn ib mb w W1 := by rw [← hW1]; exact (((Turn.refl ib mb w).set i _).set j _).drew
  have hx : x = d[i]! := HX.out.1
  have hy : y = d[j]! := HX.out.2
  have wfx : (Lit.int .i64 x).wf = true := by rw [hx]; exact hF i hi
  have wfy : (Lit.int .i64 y).wf = true := by rw [hy]; exact hF j hj
  have I1 : Holds (Value.int .i64) W1 ib 0 (swp d i j) := by
    rw [← hW1, hx, hy]; exact holds_swap HI.out hi hj hij
  have own1 : W1.ownsMap Yba.prog 3 (plainElem (H := Unit) Yba.prog 3) mb d.size D := by
    obtain ⟨⟨es, clock, hbk, F, hs, hr⟩, _⟩ := HO.out
    exact ⟨es, clock, by
      have e : W1.heap[mb]? = w.heap[mb]? := by
        rw [← hW1]
        show ((w.setCell _ _).setCell _ _).heap[mb]? = _
        rw [Below.heap_setCell _ _ _ _ (fun e => n3 e.symm), Below.heap_setCell _ _ _ _ (fun e => n3 e.symm)]
      rw [e]; exact hbk, F, hs, hr⟩
  obtain ⟨W2, run1, own2, turn2⟩ := own1.drew.store law Yba.underlying30 (by unfold maxLen; omega) (keyOf_int_mk Yba.underlying3 wfy) (plainElem_int Yba.underlying3 (a := (i : Int)) (WalkArith.wf_i64 (by omega)))
  have T2 : Turn ib mb w W2 := T1.drew.map turn2
  obtain ⟨W3, run2, own3, turn3⟩ := own2.drew.store law Yba.underlying30 (by unfold maxLen; omega) (keyOf_int_mk Yba.underlying3 wfx) (plainElem_int Yba.underlying3 (a := (j : Int)) (WalkArith.wf_i64 (by omega)))
  have T3 : Turn ib mb w W3 := T2.drew.map turn3
  have HF : Hid (HM hb ib mb d.size W3 (swp d i j)) := by
    have c0' := (T3.cell (p := ⟨hb, 0, none⟩) n1 n2).trans c0
    have c1' := (T3.cell (p := ⟨hb, 1, none⟩) n1 n2).trans c1
    have c2' := (T3.cell (p := ⟨hb, 2, none⟩) n1 n2).trans HC2.out
    have I3 : Holds (Value.int .i64) W3 ib 0 (swp d i j) := by
      refine holds_of I1 ?_
      obtain ⟨_, _, _, _, hb2, e2⟩ := turn2
      obtain ⟨_, _, _, _, hb3, e3⟩ := turn3
      show W3.heap[ib]? = _
      rw [e3, ChangeMaps.heap_setBlock_other hb3 _ n3]
      show W2.heap[ib]? = _
      rw [e2, ChangeMaps.heap_setBlock_other hb2 _ n3]
      rfl
    have hT : Tidy D := HO.out.1.tidy law
    have ok := AtOk.swap hT HO.out.2 hA hi hj hij
    rw [← hx, ← hy] at ok
    have o3 := ownsMap_size own3
    rw [ok.1, size_swp] at o3
    exact ⟨size_swp _ _ _, c0', c1', c2', I3, ⟨_, o3, ok⟩, n1, n2, n3⟩
  have HT3 : Hid (Turn ib mb w W3) := T3
  have c0a : W1.cell? ⟨hb, 0, none⟩ = some (.slice (some ⟨ib, 0, none⟩) d.size d.size) := (T1.cell (p := ⟨hb, 0, none⟩) n1 n2).trans c0
  have c1a : W1.cell? ⟨hb, 1, none⟩ = some (.map (some mb)) := (T1.cell (p := ⟨hb, 1, none⟩) n1 n2).trans c1
  have c0b : W2.cell? ⟨hb, 0, none⟩ = some (.slice (some ⟨ib, 0, none⟩) d.size d.size) := (T2.cell (p := ⟨hb, 0, none⟩) n1 n2).trans c0
  have c1b : W2.cell? ⟨hb, 1, none⟩ = some (.map (some mb)) := (T2.cell (p := ⟨hb, 1, none⟩) n1 n2).trans c1
  have cia : W1.cell? ⟨ib, i, none⟩ = some (.int .i64 y) := by
    have e := (I1 i (by rw [size_swp]; exact hi)).1
    rw [swp_left d i j hi hij, ← hy, Nat.zero_add] at e; exact e
  have cjb : W2.cell? ⟨ib, j, none⟩ = some (.int .i64 x) := by
    have e := (I1 j (by rw [size_swp]; exact hj)).1
    rw [swp_right d i j hj, ← hx, Nat.zero_add] at e
    obtain ⟨_, _, _, _, hb2, e2⟩ := turn2
    rw [← e]
    exact World.cell?_of_block (w := W1) (a := ⟨ib, j, none⟩) (by rw [e2]; exact ChangeMaps.heap_setBlock_other hb2 _ n3)
  clear T1 T2 T3 I1 own1 own2 own3 turn2 turn3 hx hy wfx wfy HI HX HO HC2 hW1 c0 c1 ci cj fi fj hA hF
  go_region
  all_goals go_wp2
  go_region
  all_goals go_wp2
  refine bodyPost_end (results_none rfl _ _ _) rfl ?_
  exact ⟨rfl, HF.out, HT3.out⟩
end Go.Proofs.Ybulkbrkw.Hp

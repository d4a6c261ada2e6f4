/-
  The law's slice of structs, opened; the two little functions that turn a byte into a kind and an issuer's kind; the row of classes that the law makes.
-/
import Derived.Test.YbulkbrkiIn
import Derived.Deep.Slices
import Derived.Deep.Strs
namespace Go.Proofs.Ybulkbrki.Cls
open Go.ChangeShapes Go.WideShapes Go.ChangeAt Go.RowKit Go.Deep

/-- What the walk is told of the slice that came in: each of its elements lies in three cells: two bytes and a bool. -/
def IsCls (w : World) (a : Option Addr) (len : Nat) (X Y : Nat → Int) (B : Nat → Bool) : Prop :=
  len = 0 ∨ ∃ b off, a = some ⟨b, off, none⟩ ∧ b < w.heap.size ∧ ∀ i, i < len → w.cell? ⟨b, off + i * 3, none⟩ = some (.int .u8 (X i)) ∧ w.cell? ⟨b, off + i * 3 + 1, none⟩ = some (.int .u8 (Y i)) ∧ w.cell? ⟨b, off + i * 3 + 2, none⟩ = some (.bool (B i)) ∧ (0 ≤ X i ∧ X i ≤ 255) ∧ (0 ≤ Y i ∧ Y i ≤ 255)

theorem cells28 : Yba.prog.cellsOf 28 = 3 := by kernel_rfl
theorem cells5 : Yba.prog.cellsOf 5 = 1 := by kernel_rfl
theorem cells4 : Yba.prog.cellsOf 4 = 1 := by kernel_rfl

theorem three {α : Type} {l : List α} (h : l.length = 3) : ∃ a b c, l = [a, b, c] :=
  match l, h with
  | [a, b, c], _ => ⟨a, b, c, rfl⟩

theorem openCls {H : Type} {enc : TypeId × Value → H} {w : World} {spare : Nat → Bool} {held : Bool} {fuel : Nat} {a : Option Addr} {len cap : Nat} {x : DataW H × List MemPlace}
    (h : DataW.trod enc Yba.prog w 0 spare held fuel 22 [.slice a len cap] = some x) : ∃ X Y B, IsCls w a len X Y B := by
  rcases open_slice Yba.underlying22 h with ⟨hcs, _⟩ | ⟨a', l', c', m, n, D, Pl, hcs, _, hl, _, hm, _, hx⟩
  · simp at hcs
    exact ⟨fun _ => 0, fun _ => 0, fun _ => false, .inl hcs.2.1⟩
  · simp only [List.cons.injEq, Value.slice.injEq, and_true] at hcs
    obtain ⟨rfl, rfl, rfl⟩ := hcs
    have hlm : len ≤ m := by rw [hm]; split <;> omega
    by_cases hz : len = 0
    · exact ⟨fun _ => 0, fun _ => 0, fun _ => false, .inl hz⟩
    rw [cells28] at hx
    have each : ∀ i, i < len → ∃ q : Int × Int × Bool, w.cell? (a'.add (i * 3)) = some (.int .u8 q.1) ∧ w.cell? (a'.add (i * 3 + 1)) = some (.int .u8 q.2.1) ∧ w.cell? (a'.add (i * 3 + 2)) = some (.bool q.2.2) ∧ (0 ≤ q.1 ∧ q.1 ≤ 255) ∧ (0 ≤ q.2.1 ∧ q.2.1 ≤ 255) := by
      intro i hi
      obtain ⟨cs', h1, h2⟩ := hx i (by omega)
      obtain ⟨_, hlen, hcell⟩ := World.cells?_some h1
      obtain ⟨y0, y1, y2, n', _, _, g0, g1, g2⟩ := trod_struct3 Yba.underlying28 h2
      obtain ⟨v0, v1, v2, rfl⟩ := three hlen
      simp [cells5, cells4] at g0 g1 g2
      obtain ⟨i0, e0, _, wf0⟩ := DataW.trod_int Yba.underlying5 g0
      obtain ⟨i1, e1, _, wf1⟩ := DataW.trod_int Yba.underlying5 g1
      obtain ⟨b2, e2, _⟩ := DataW.trod_bool Yba.underlying4 g2
      simp at e0 e1 e2
      subst e0 e1 e2
      have q0 := hcell 0 (by omega)
      have q1 := hcell 1 (by omega)
      have q2 := hcell 2 (by omega)
      rw [add_add] at q0 q1 q2
      exact ⟨(i0, i1, b2), by simpa using q0, by simpa using q1, by simpa using q2, bounds_u8 wf0, bounds_u8 wf1⟩
    obtain ⟨q, hq⟩ := choose_lt each
    obtain ⟨b, off, spot⟩ := a'
    have hspot : spot = none := by simpa [Addr.add] using World.cell?_spot (hq 0 (by omega)).1
    subst hspot
    refine ⟨fun i => (q i).1, fun i => (q i).2.1, fun i => (q i).2.2, .inr ⟨b, off, rfl, ?_, fun i hi => ?_⟩⟩
    · have := (hq 0 (by omega)).1
      rw [add_plain] at this
      exact World.block_lt_of_cell? _ _ this
    · have := hq i hi
      rw [add_plain, add_plain, add_plain] at this
      exact this

theorem lenCls {H : Type} {enc : TypeId × Value → H} {w : World} {spare : Nat → Bool} {held : Bool} {fuel : Nat} {a : Option Addr} {len cap : Nat} {x : DataW H × List MemPlace}
    (h : DataW.trod enc Yba.prog w 0 spare held fuel 22 [.slice a len cap] = some x) : len ≤ maxLen := by
  rcases open_slice Yba.underlying22 h with ⟨hcs, _⟩ | ⟨a', l', c', m, n, D, Pl, hcs, _, hl, hm, _, _, _⟩
  · simp at hcs
    omega
  · simp only [List.cons.injEq, Value.slice.injEq, and_true] at hcs
    omega

/-! ### The two little functions -/
def stock : ByteArray := ⟨#[115, 116, 111, 99, 107]⟩
def bond : ByteArray := ⟨#[98, 111, 110, 100]⟩
def cash : ByteArray := ⟨#[99, 97, 115, 104]⟩
def govt : ByteArray := ⟨#[103, 111, 118, 101, 114, 110, 109, 101, 110, 116]⟩
def other : ByteArray := ⟨#[111, 116, 104, 101, 114]⟩
def kd (x : Int) : ByteArray := if x % 3 = 0 then stock else if x % 3 = 1 then bond else cash
def iss (x : Int) : ByteArray := if x % 3 = 1 then govt else if x % 3 = 2 then other else ⟨#[]⟩

theorem kind_any (x : Int) (w : World) (h0 : 0 ≤ x) (h1 : x ≤ 255) : Calls Yba.prog 7 #[.int .u8 x] w fun e w' => e = .returned (.string (kd x)) ∧ w' = w := by
  by_cases a : x % 3 = 0
  · have e : kd x = ⟨#[115, 116, 111, 99, 107]⟩ := by unfold kd; rw [if_pos a]; rfl
    rw [e]
    go_enter Yba.func7, Yba.ntmps7
    go_wp2
    go_ret
    exact ⟨rfl, rfl⟩
  · by_cases b : x % 3 = 1
    · have e : kd x = ⟨#[98, 111, 110, 100]⟩ := by unfold kd; rw [if_neg a, if_pos b]; rfl
      rw [e]
      go_enter Yba.func7, Yba.ntmps7
      go_wp2
      go_ret
      exact ⟨rfl, rfl⟩
    · have e : kd x = ⟨#[99, 97, 115, 104]⟩ := by unfold kd; rw [if_neg a, if_neg b]; rfl
      rw [e]
      have a' : (x % 3 == 0) = false := by simpa using a
      have b' : (x % 3 == 1) = false := by simpa using b
      go_enter Yba.func7, Yba.ntmps7
      go_wp2
      go_ret
      exact ⟨rfl, rfl⟩

theorem issuer_any (x : Int) (w : World) (h0 : 0 ≤ x) (h1 : x ≤ 255) : Calls Yba.prog 8 #[.int .u8 x] w fun e w' => e = .returned (.string (iss x)) ∧ w' = w := by
  by_cases a : x % 3 = 1
  · have e : iss x = ⟨#[103, 111, 118, 101, 114, 110, 109, 101, 110, 116]⟩ := by unfold iss; rw [if_pos a]; rfl
    rw [e]
    go_enter Yba.func8, Yba.ntmps8
    go_wp2
    go_ret
    exact ⟨rfl, rfl⟩
  · by_cases b : x % 3 = 2
    · have e : iss x = ⟨#[111, 116, 104, 101, 114]⟩ := by unfold iss; rw [if_neg a, if_pos b]; rfl
      rw [e]
      go_enter Yba.func8, Yba.ntmps8
      go_wp2
      go_ret
      exact ⟨rfl, rfl⟩
    · have e : iss x = ⟨#[]⟩ := by unfold iss; rw [if_neg a, if_neg b]
      rw [e]
      have a' : (x % 3 == 1) = false := by simpa using a
      have b' : (x % 3 == 2) = false := by simpa using b
      go_enter Yba.func8, Yba.ntmps8
      go_wp2
      go_ret
      exact ⟨rfl, rfl⟩

/-! ### The row of classes, as it is filled -/
/-- In world wr block g is the call's own row of n classes; the first k are laid. -/
structure Fill (w wr : World) (g n k : Nat) (K I : Nat → ByteArray) (Y : Nat → Bool) : Prop where
  below : Below w.heap.size w wr
  lt : g < wr.heap.size
  row : In.Row wr g k K I Y
  there : ∀ j, j < n * 4 → ∃ v, wr.cell? ⟨g, j, none⟩ = some v
  free : ∀ j, wr.frozen? ⟨g, j, none⟩ = false

theorem set_cell {w : World} {g o : Nat} {v u : Value} (h : w.cell? ⟨g, o, none⟩ = some u) : (w.setCell ⟨g, o, none⟩ v).cell? ⟨g, o, none⟩ = some v := World.cell?_setCell_same _ _ _ h
theorem set_other {w : World} {g o p : Nat} {v : Value} (h : o ≠ p) : (w.setCell ⟨g, o, none⟩ v).cell? ⟨g, p, none⟩ = w.cell? ⟨g, p, none⟩ := World.cell?_setCell_other _ _ _ _ (fun e => h (congrArg Addr.off e))

theorem Fill.step {w wr : World} {g n k : Nat} {K I : Nat → ByteArray} {Y : Nat → Bool} (f : Fill w wr g n k K I Y) (hg : w.heap.size ≤ g) (hk : k < n) (o : Obj) :
    Fill w (((((wr.setCell ⟨g, k * 4, none⟩ (.string ⟨#[]⟩)).setCell ⟨g, k * 4 + 1, none⟩ (.string (K k))).setCell ⟨g, k * 4 + 2, none⟩ (.string (I k))).setCell ⟨g, k * 4 + 3, none⟩ (.bool (Y k))).alloc o) g n (k + 1) K I Y := by
  have hs : ∀ (W : World) (a : Addr) (v : Value), (W.setCell a v).heap.size = W.heap.size := fun W a v => by simp [World.setCell]
  have hb := f.below.size
  have lt := f.lt
  refine ⟨?_, ?_, ?_, ?_, ?_⟩
  · exact ((((f.below.setCell (p := ⟨g, k * 4, none⟩) hg _).setCell (p := ⟨g, k * 4 + 1, none⟩) hg _).setCell (p := ⟨g, k * 4 + 2, none⟩) hg _).setCell (p := ⟨g, k * 4 + 3, none⟩) hg _).alloc (by simp only [hs]; omega) o
  · simp only [World.size_alloc, hs]; omega
  · have alo : ∀ (W : World) (j : Nat), g < W.heap.size → (W.alloc o).cell? ⟨g, j, none⟩ = W.cell? ⟨g, j, none⟩ := fun W j h => World.cell?_alloc_lt _ _ _ h
    intro j hj
    rw [alo _ _ (by simp only [hs]; exact lt), alo _ _ (by simp only [hs]; exact lt), alo _ _ (by simp only [hs]; exact lt), alo _ _ (by simp only [hs]; exact lt)]
    obtain ⟨v0, e0⟩ := f.there (k * 4) (by omega)
    obtain ⟨v1, e1⟩ := f.there (k * 4 + 1) (by omega)
    obtain ⟨v2, e2⟩ := f.there (k * 4 + 2) (by omega)
    obtain ⟨v3, e3⟩ := f.there (k * 4 + 3) (by omega)
    by_cases e : j = k
    · subst e
      refine ⟨?_, ?_, ?_, ?_⟩
      · rw [set_other (by omega), set_other (by omega), set_other (by omega), set_cell e0]
      · rw [set_other (by omega), set_other (by omega), set_cell (u := v1) (by rw [set_other (by omega)]; exact e1)]
      · rw [set_other (by omega), set_cell (u := v2) (by rw [set_other (by omega), set_other (by omega)]; exact e2)]
      · rw [set_cell (u := v3) (by rw [set_other (by omega), set_other (by omega), set_other (by omega)]; exact e3)]
    · have r := f.row j (by omega)
      refine ⟨?_, ?_, ?_, ?_⟩ <;> rw [set_other (by omega), set_other (by omega), set_other (by omega), set_other (by omega)]
      · exact r.1
      · exact r.2.1
      · exact r.2.2.1
      · exact r.2.2.2
  · intro j hj
    have alo : ∀ (W : World) (j : Nat), g < W.heap.size → (W.alloc o).cell? ⟨g, j, none⟩ = W.cell? ⟨g, j, none⟩ := fun W j h => World.cell?_alloc_lt _ _ _ h
    obtain ⟨v, e⟩ := f.there j hj
    obtain ⟨v1, e1⟩ := cell?_setCell_some (p := ⟨g, k * 4, none⟩) (x := .string ⟨#[]⟩) e
    obtain ⟨v2, e2⟩ := cell?_setCell_some (p := ⟨g, k * 4 + 1, none⟩) (x := .string (K k)) e1
    obtain ⟨v3, e3⟩ := cell?_setCell_some (p := ⟨g, k * 4 + 2, none⟩) (x := .string (I k)) e2
    obtain ⟨v4, e4⟩ := cell?_setCell_some (p := ⟨g, k * 4 + 3, none⟩) (x := .bool (Y k)) e3
    exact ⟨v4, (alo _ _ (by simp only [hs]; exact lt)).trans e4⟩
  · intro j
    rw [World.frozen?_alloc_old _ _ _ (by simp only [hs]; omega)]
    simp only [World.frozen?_setCell]
    exact f.free j
end Go.Proofs.Ybulkbrki.Cls

/-
  Laws for a struct of many cells: built, stored into the variable that was just made, loaded back: one step each.
-/
import Derived.WalkKit
import Derived.Handy
import Derived.Laws.Tables
import Derived.Laws.Rows
namespace Go.Proofs.Ybulkbrki.Big
open Go

theorem wpList_build_at {P : Program} {ops : Array Oper} {rest : List Oper} {o : Oper} {a : Act} {w : World} {Q : Exit → Act → World → Prop} (hg : o.guard = none) (t : TypeId) (parts : Array (Nat × Operand)) (ho : o.op = .build t parts)
    (cells : Array Value) (hc : P.built t (parts.map fun (i, x) => (i, a.eval x)).toList = some cells)
    (h : wpList P ops Q rest (a.put o.dst (.agg cells)) w) : wpList P ops Q (o :: rest) a w :=
  wpList_build hg t parts ho (by rw [hc]; rfl) (by rw [hc]; exact h)

theorem setRow_alloc (u : World) (old cells : Array Value) (t : TypeId) : (u.alloc (.cells old t)).setRow u.heap.size cells = u.alloc (.cells cells t) := by
  have hh : ∀ o : Obj, (u.alloc o).heap = u.heap.push o := fun _ => rfl
  have e : ((u.alloc (.cells old t)).setRow u.heap.size cells).heap = (u.alloc (.cells cells t)).heap := by
    apply Array.ext_getElem?
    intro i
    by_cases h : i = u.heap.size
    · subst h
      rw [setRow_heap _ _ old cells t (0, 0) (by rw [hh]; simp), hh]; simp
    · rw [setRow_other _ _ _ _ h, hh, hh, Array.getElem?_push, Array.getElem?_push, if_neg h, if_neg h]
  calc (u.alloc (.cells old t)).setRow u.heap.size cells = { u with heap := ((u.alloc (.cells old t)).setRow u.heap.size cells).heap } := rfl
    _ = { u with heap := (u.alloc (.cells cells t)).heap } := by rw [e]
    _ = u.alloc (.cells cells t) := rfl

theorem wpList_store_new {P : Program} {ops : Array Oper} {rest : List Oper} {o : Oper} {a : Act} {Q : Exit → Act → World → Prop} (hgd : o.guard = none) (ty : TypeId) (x y : Operand) (ho : o.op = .store ty x y) (u : World)
    (cells old : Array Value) (t : TypeId) (hx : a.eval x = .pointer (some ⟨u.heap.size, 0, none⟩)) (hy : a.eval y = .agg cells) (hi : (P.info? ty).map (·.size) = some cells.size)
    (hold : old.size = cells.size) (h1 : cells.all (·.oneCell') = true)
    (h : wpList P ops Q rest (a.put o.dst undef) (u.alloc (.cells cells t))) : wpList P ops Q (o :: rest) a (u.alloc (.cells old t)) :=
  wpList_store_row hgd ty x y ho u.heap.size cells hx hy t old (by show (u.heap.push _)[u.heap.size]? = _; simp) hi hold h1 (by rw [setRow_alloc]; exact h)

theorem heap_first (u : World) (A : Array Value) (t : TypeId) : (u.alloc (.cells A t)).heap[u.heap.size]? = some (.cells A t (0, 0)) := by
  show (u.heap.push _)[u.heap.size]? = _; simp
theorem heap_past (u : World) (o : Obj) (g : Nat) (h : g < u.heap.size) : (u.alloc o).heap[g]? = u.heap[g]? := Go.RowKit.Below.heap_alloc u o g h
theorem heap_two_first (u : World) (A : Array Value) (t : TypeId) (o : Obj) : ((u.alloc (.cells A t)).alloc o).heap[u.heap.size]? = some (.cells A t (0, 0)) := by
  rw [heap_past _ _ _ (by simp)]; exact heap_first u A t
theorem heap_two_second (u : World) (o : Obj) (B : Array Value) (t : TypeId) : ((u.alloc o).alloc (.cells B t)).heap[u.heap.size + 1]? = some (.cells B t (0, 0)) := by
  have := heap_first (u.alloc o) B t
  simpa using this
theorem set_row (w : World) (g i : Nat) (v : Value) (c : Array Value) (t : TypeId) (h : w.heap[g]? = some (.cells c t (0, 0))) : (w.setCell ⟨g, i, none⟩ v).heap[g]? = some (.cells (c.setIfInBounds i v) t (0, 0)) := by
  simp only [World.setCell, Array.getElem?_modify, if_pos, h, Option.map_some]
  rfl
theorem new_cell (w : World) (a : Addr) (v : Value) (C : Array Value) (t : TypeId) (i : Nat) (x : Value) (h : C[i]? = some x) : ((w.setCell a v).alloc (.cells C t)).cell? ⟨w.heap.size, i, none⟩ = some x := by
  rw [World.cell?_alloc_at C t w.heap.size i (by simp [World.setCell])]
  exact h
end Go.Proofs.Ybulkbrki.Big

/-
  The contracts of '(*lockEntry).unlink' and '(*lockEntry).enqueue' on the queue in memory.
-/
import Derived.Test.YbulkbrmmQ
import Derived.Deep.RegionHeld3
import Derived.BigRegion
namespace Go.Proofs.Ybulkbrmm.Qu
open Go.ChangeShapes Go.WideShapes Go.ChangeAt Go.RowKit

set_option maxHeartbeats 1000000 in
theorem unlink_mid (N c k a b : Nat) (w0 w : World) (F L : Value) (Ar Pv Nx : Nat → Value) (hQ : Q N c c w0 w F L Ar Pv Nx) (hk : k < c) (ha : a < c) (hak : ¬ a = k) (hb : b < c) (hbk : ¬ b = k)
    (hp : Pv k = ptr N a) (hn : Nx k = ptr N b) :
    Calls Yba.prog 8 #[.pointer (some ⟨N, 0, none⟩), .pointer (some ⟨N + 2 + k, 0, none⟩)] w fun e w' => e = .returned (.tuple #[]) ∧ Q N c c w0 w' F L Ar (upd (upd Pv b (ptr N a)) k nul) (upd (upd Nx a (ptr N b)) k nul) := by
  have c1 := hQ.prev k hk
  have c2 := hQ.next k hk
  have c3 := hQ.prev b hb
  have f3 := hQ.free (N + 2 + b) 3 (by omega) (by omega)
  have c4 := hQ.next a ha
  have f4 := hQ.free (N + 2 + a) 4 (by omega) (by omega)
  rw [hp] at c1
  rw [hn] at c2
  unfold ptr at c1
  unfold ptr at c2
  have f1 := hQ.free (N + 2 + k) 3 (by omega) (by omega)
  have f2 := hQ.free (N + 2 + k) 4 (by omega) (by omega)
  have HQ : Hid _ := hQ
  clear hQ hp hn
  go_enter Yba.func8, Yba.ntmps8
  go_wp2
  go_region
  go_wp2
  go_region
  go_wp2
  go_end0
  exact ⟨rfl, (((((HQ.out.setNext a ha _).setPrev b hb _).setPrev k hk _).setNext k hk _).drew).drew⟩

set_option maxHeartbeats 1000000 in
theorem unlink_first (N c k b : Nat) (w0 w : World) (F L : Value) (Ar Pv Nx : Nat → Value) (hQ : Q N c c w0 w F L Ar Pv Nx) (hk : k < c) (hb : b < c) (hbk : ¬ b = k)
    (hp : Pv k = nul) (hn : Nx k = ptr N b) :
    Calls Yba.prog 8 #[.pointer (some ⟨N, 0, none⟩), .pointer (some ⟨N + 2 + k, 0, none⟩)] w fun e w' => e = .returned (.tuple #[]) ∧ Q N c c w0 w' (ptr N b) L Ar (upd (upd Pv b (nul)) k nul) (upd (Nx) k nul) := by
  have c1 := hQ.prev k hk
  have c2 := hQ.next k hk
  have c3 := hQ.prev b hb
  have f3 := hQ.free (N + 2 + b) 3 (by omega) (by omega)
  have c4 := hQ.first
  have f4 := hQ.free N 4 (by omega) (by omega)
  rw [hp] at c1
  rw [hn] at c2
  unfold nul at c1
  unfold ptr at c2
  have f1 := hQ.free (N + 2 + k) 3 (by omega) (by omega)
  have f2 := hQ.free (N + 2 + k) 4 (by omega) (by omega)
  have HQ : Hid _ := hQ
  clear hQ hp hn
  go_enter Yba.func8, Yba.ntmps8
  go_wp2
  go_region
  go_wp2
  go_end0
  exact ⟨rfl, ((((HQ.out.setFirst _).setPrev b hb _).setPrev k hk _).setNext k hk _).drew⟩

set_option maxHeartbeats 1000000 in
theorem unlink_last (N c k a : Nat) (w0 w : World) (F L : Value) (Ar Pv Nx : Nat → Value) (hQ : Q N c c w0 w F L Ar Pv Nx) (hk : k < c) (ha : a < c) (hak : ¬ a = k)
    (hp : Pv k = ptr N a) (hn : Nx k = nul) :
    Calls Yba.prog 8 #[.pointer (some ⟨N, 0, none⟩), .pointer (some ⟨N + 2 + k, 0, none⟩)] w fun e w' => e = .returned (.tuple #[]) ∧ Q N c c w0 w' F (ptr N a) Ar (upd (Pv) k nul) (upd (upd Nx a (nul)) k nul) := by
  have c1 := hQ.prev k hk
  have c2 := hQ.next k hk
  have c3 := hQ.last
  have f3 := hQ.free N 5 (by omega) (by omega)
  have c4 := hQ.next a ha
  have f4 := hQ.free (N + 2 + a) 4 (by omega) (by omega)
  rw [hp] at c1
  rw [hn] at c2
  unfold ptr at c1
  unfold nul at c2
  have f1 := hQ.free (N + 2 + k) 3 (by omega) (by omega)
  have f2 := hQ.free (N + 2 + k) 4 (by omega) (by omega)
  have HQ : Hid _ := hQ
  clear hQ hp hn
  go_enter Yba.func8, Yba.ntmps8
  go_wp2
  go_region
  go_wp2
  go_end0
  exact ⟨rfl, ((((HQ.out.setNext a ha _).setLast _).setPrev k hk _).setNext k hk _).drew⟩

set_option maxHeartbeats 1000000 in
theorem unlink_only (N c k : Nat) (w0 w : World) (F L : Value) (Ar Pv Nx : Nat → Value) (hQ : Q N c c w0 w F L Ar Pv Nx) (hk : k < c)
    (hp : Pv k = nul) (hn : Nx k = nul) :
    Calls Yba.prog 8 #[.pointer (some ⟨N, 0, none⟩), .pointer (some ⟨N + 2 + k, 0, none⟩)] w fun e w' => e = .returned (.tuple #[]) ∧ Q N c c w0 w' (nul) (nul) Ar (upd (Pv) k nul) (upd (Nx) k nul) := by
  have c1 := hQ.prev k hk
  have c2 := hQ.next k hk
  have c3 := hQ.last
  have f3 := hQ.free N 5 (by omega) (by omega)
  have c4 := hQ.first
  have f4 := hQ.free N 4 (by omega) (by omega)
  rw [hp] at c1
  rw [hn] at c2
  unfold nul at c1
  unfold nul at c2
  have f1 := hQ.free (N + 2 + k) 3 (by omega) (by omega)
  have f2 := hQ.free (N + 2 + k) 4 (by omega) (by omega)
  have HQ : Hid _ := hQ
  clear hQ hp hn
  go_enter Yba.func8, Yba.ntmps8
  go_wp2
  go_end0
  exact ⟨rfl, (((HQ.out.setFirst _).setLast _).setPrev k hk _).setNext k hk _⟩

set_option maxHeartbeats 1000000 in
theorem enq_front (N c k b : Nat) (w0 w : World) (F L : Value) (Ar Pv Nx : Nat → Value) (hQ : Q N c c w0 w F L Ar Pv Nx) (hk : k < c) (hb : b < c) (hbk : ¬ b = k)
    (hF : F = ptr N b) (lo : Option Addr) (hL : L = .pointer lo) :
    Calls Yba.prog 10 #[.pointer (some ⟨N, 0, none⟩), .pointer (some ⟨N + 2 + k, 0, none⟩), .bool true] w fun e w' => e = .returned (.tuple #[]) ∧ Q N c c w0 w' (ptr N k) L Ar (upd (upd Pv k nul) b (ptr N k)) (upd Nx k (ptr N b)) := by
  have c1 := hQ.prev k hk
  have c2 := hQ.next k hk
  have c3 := hQ.first
  have c4 := hQ.last
  have f1 := hQ.free (N + 2 + k) 3 (by omega) (by omega)
  have f2 := hQ.free (N + 2 + k) 4 (by omega) (by omega)
  have f3 := hQ.free N 4 (by omega) (by omega)
  have f4 := hQ.free N 5 (by omega) (by omega)
  have c5 := hQ.prev b hb
  have c6 := hQ.next b hb
  have f5 := hQ.free (N + 2 + b) 3 (by omega) (by omega)
  have f6 := hQ.free (N + 2 + b) 4 (by omega) (by omega)
  rw [hF] at c3
  unfold ptr at c3
  rw [hL] at c4
  have HQ : Hid _ := hQ
  clear hQ hF hL
  go_enter Yba.func10, Yba.ntmps10
  go_wp2
  go_end0
  refine ⟨rfl, ?_⟩
  exact (((((HQ.out.setPrev k hk _).setPrev k hk _).setNext k hk _).setFirst _).setPrev b hb _).congr rfl rfl (fun _ _ => rfl) (fun i _ => by unfold upd nul; repeat (split <;> try rfl)) (fun _ _ => rfl)

set_option maxHeartbeats 1000000 in
theorem enq_front0 (N c k : Nat) (w0 w : World) (F L : Value) (Ar Pv Nx : Nat → Value) (hQ : Q N c c w0 w F L Ar Pv Nx) (hk : k < c)
    (hF : F = nul) (lo : Option Addr) (hL : L = .pointer lo) :
    Calls Yba.prog 10 #[.pointer (some ⟨N, 0, none⟩), .pointer (some ⟨N + 2 + k, 0, none⟩), .bool true] w fun e w' => e = .returned (.tuple #[]) ∧ Q N c c w0 w' (ptr N k) (ptr N k) Ar (upd Pv k nul) (upd Nx k (nul)) := by
  have c1 := hQ.prev k hk
  have c2 := hQ.next k hk
  have c3 := hQ.first
  have c4 := hQ.last
  have f1 := hQ.free (N + 2 + k) 3 (by omega) (by omega)
  have f2 := hQ.free (N + 2 + k) 4 (by omega) (by omega)
  have f3 := hQ.free N 4 (by omega) (by omega)
  have f4 := hQ.free N 5 (by omega) (by omega)
  rw [hF] at c3
  unfold nul at c3
  rw [hL] at c4
  have HQ : Hid _ := hQ
  clear hQ hF hL
  go_enter Yba.func10, Yba.ntmps10
  go_wp2
  go_end0
  refine ⟨rfl, ?_⟩
  exact (((((HQ.out.setPrev k hk _).setPrev k hk _).setNext k hk _).setFirst _).setLast _).congr rfl rfl (fun _ _ => rfl) (fun i _ => by unfold upd nul; repeat (split <;> try rfl)) (fun _ _ => rfl)

set_option maxHeartbeats 1000000 in
theorem enq_back (N c k b : Nat) (w0 w : World) (F L : Value) (Ar Pv Nx : Nat → Value) (hQ : Q N c c w0 w F L Ar Pv Nx) (hk : k < c) (hb : b < c) (hbk : ¬ b = k)
    (hL : L = ptr N b) (hnb : Nx b = nul) :
    Calls Yba.prog 10 #[.pointer (some ⟨N, 0, none⟩), .pointer (some ⟨N + 2 + k, 0, none⟩), .bool false] w fun e w' => e = .returned (.tuple #[]) ∧ Q N c c w0 w' F (ptr N k) Ar (upd Pv k (ptr N b)) (upd (upd Nx k nul) b (ptr N k)) := by
  have c1 := hQ.prev k hk
  have c2 := hQ.next k hk
  have c3 := hQ.first
  have c4 := hQ.last
  have f1 := hQ.free (N + 2 + k) 3 (by omega) (by omega)
  have f2 := hQ.free (N + 2 + k) 4 (by omega) (by omega)
  have f3 := hQ.free N 4 (by omega) (by omega)
  have f4 := hQ.free N 5 (by omega) (by omega)
  have c5 := hQ.prev b hb
  have c6 := hQ.next b hb
  have f5 := hQ.free (N + 2 + b) 3 (by omega) (by omega)
  have f6 := hQ.free (N + 2 + b) 4 (by omega) (by omega)
  rw [hL] at c4
  unfold ptr at c4
  rw [hnb] at c6
  unfold nul at c6
  have HQ : Hid _ := hQ
  clear hQ hL hnb
  go_enter Yba.func10, Yba.ntmps10
  go_wp2
  go_end0
  refine ⟨rfl, ?_⟩
  exact ((((HQ.out.setPrev k hk _).setNext k hk _).setNext b hb _).setLast _)

set_option maxHeartbeats 1000000 in
theorem enq_back0 (N c k : Nat) (w0 w : World) (F L : Value) (Ar Pv Nx : Nat → Value) (hQ : Q N c c w0 w F L Ar Pv Nx) (hk : k < c)
    (hL : L = nul) (hF : F = nul) :
    Calls Yba.prog 10 #[.pointer (some ⟨N, 0, none⟩), .pointer (some ⟨N + 2 + k, 0, none⟩), .bool false] w fun e w' => e = .returned (.tuple #[]) ∧ Q N c c w0 w' (ptr N k) (ptr N k) Ar (upd Pv k nul) (upd Nx k nul) := by
  have c1 := hQ.prev k hk
  have c2 := hQ.next k hk
  have c3 := hQ.first
  have c4 := hQ.last
  have f1 := hQ.free (N + 2 + k) 3 (by omega) (by omega)
  have f2 := hQ.free (N + 2 + k) 4 (by omega) (by omega)
  have f3 := hQ.free N 4 (by omega) (by omega)
  have f4 := hQ.free N 5 (by omega) (by omega)
  rw [hL] at c4
  unfold nul at c4
  rw [hF] at c3
  unfold nul at c3
  have HQ : Hid _ := hQ
  clear hQ hL hF
  go_enter Yba.func10, Yba.ntmps10
  go_wp2
  go_end0
  refine ⟨rfl, ?_⟩
  exact ((((HQ.out.setPrev k hk _).setNext k hk _).setFirst _).setLast _)

end Go.Proofs.Ybulkbrmm.Qu

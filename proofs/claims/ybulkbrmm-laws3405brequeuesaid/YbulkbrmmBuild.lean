/-
  The contract of 'zzs3405bbuild': a queue of c requests, linked both ways.
-/
import Derived.Test.YbulkbrmmQ
import Derived.Deep.OwnRows
import Derived.Deep.RegionHeld3
import Derived.BigRegion
namespace Go.Proofs.Ybulkbrmm.Qu
open Go.ChangeShapes Go.WideShapes Go.ChangeAt Go.RowKit

theorem Q.push {N c k : Nat} {w0 w : World} {F L : Value} {Ar Pv Nx : Nat → Value} (h : Q N c k w0 w F L Ar Pv Nx) (hs : w.heap.size = N + 2 + k) (C : Array Value) (t : TypeId) (p q : Value) (h3 : C[3]? = some p) (h4 : C[4]? = some q) :
    Q N c (k + 1) w0 (w.alloc (.cells C t)) F L Ar (upd Pv k p) (upd Nx k q) := by
  have g := h.alloc (.cells C t)
  have e : ∀ j, (w.alloc (.cells C t)).cell? ⟨N + 2 + k, j, none⟩ = C[j]? := fun j => World.cell?_alloc_at C t _ j hs.symm
  refine ⟨g.below, by simp; omega, g.first, g.last, g.arr, fun i hi => ?_, fun i hi => ?_, fun b o hb hb' => ?_⟩
  · by_cases e1 : i = k
    · subst e1; rw [upd_same, e, h3]
    · rw [upd_other _ _ e1]; exact g.prev i (by omega)
  · by_cases e1 : i = k
    · subst e1; rw [upd_same, e, h4]
    · rw [upd_other _ _ e1]; exact g.next i (by omega)
  · by_cases e1 : b = N + 2 + k
    · subst e1; exact World.frozen?_alloc_at C t _ o hs.symm
    · exact g.free b o hb (by omega)

theorem info27 : (Yba.prog.info? 27).map (fun i => (i.zero, i.size, i.bytes)) = some (some (.pointer none), 1, 8) := by kernel_rfl

theorem start (c : Nat) (w : World) (E : Array Value) (t : TypeId) (Pv Nx : Nat → Value) (h4 : E[4]? = some nul) (h5 : E[5]? = some nul) :
    Q w.heap.size c 0 w ((w.alloc (.cells E t)).alloc (.cells (madeCells #[.pointer none] c) 27)) nul nul (fun _ => nul) Pv Nx := by
  have g : ∀ j, ((w.alloc (.cells E t)).alloc (.cells (madeCells #[.pointer none] c) 27)).cell? ⟨w.heap.size, j, none⟩ = E[j]? := fun j => by
    rw [World.cell?_alloc_lt _ _ _ (by simp), World.cell?_alloc_new]
  refine ⟨((Below.refl _ _).alloc (Nat.le_refl _) _).alloc (by simp) _, by simp, by rw [g, h4], by rw [g, h5], fun i hi => ?_, fun i hi => by omega, fun i hi => by omega, fun b o hb hb' => ?_⟩
  · rw [World.cell?_alloc_at _ _ _ _ (by simp), ← Array.getElem?_toList, toList_madeCells_one]
    simp [hi, nul]
  · by_cases e : b = w.heap.size + 1
    · subst e; exact World.frozen?_alloc_at _ _ _ _ (by simp)
    · have e : b = w.heap.size := by omega
      subst e
      rw [World.frozen?_alloc_old _ _ _ (by simp), World.frozen?_alloc_new]

def arK (N k : Nat) : Nat → Value := fun i => if i < k then ptr N i else nul
def pvK (N k : Nat) : Nat → Value := fun i => if i < k ∧ 0 < i then ptr N (i - 1) else nul
def nxK (N c k : Nat) : Nat → Value := fun i => if i < k ∧ i + 1 < c then ptr N (i + 1) else nul

theorem pvK_next {N i k : Nat} : upd (pvK N (k + 1)) (k + 1) (ptr N k) i = pvK N (k + 1 + 1) i := by
  by_cases e : i = k + 1
  · subst e; rw [upd_same]; unfold pvK; rw [if_pos (by omega)]; rfl
  · rw [upd_other _ _ e]; unfold pvK
    by_cases h : i < k + 1 ∧ 0 < i
    · rw [if_pos h, if_pos (by omega)]
    · rw [if_neg h, if_neg (by omega)]
theorem nxK_next {N c i k : Nat} (h : k + 1 < c) : upd (nxK N c k) k (ptr N (k + 1)) i = nxK N c (k + 1) i := by
  by_cases e : i = k
  · subst e; rw [upd_same]; unfold nxK; rw [if_pos (by omega)]
  · rw [upd_other _ _ e]; unfold nxK
    by_cases h : i < k ∧ i + 1 < c
    · rw [if_pos h, if_pos (by omega)]
    · rw [if_neg h, if_neg (by omega)]
theorem nxK_stop {N c i k : Nat} (h : ¬ k + 1 < c) : nxK N c k i = nxK N c (k + 1) i := by
  unfold nxK
  by_cases h : i < k ∧ i + 1 < c
  · rw [if_pos h, if_pos (by omega)]
  · rw [if_neg h, if_neg (by omega)]

set_option maxHeartbeats 2000000 in
theorem build (c : Nat) (w : World) (h1 : 1 ≤ c) (h2 : c ≤ 1025) :
    Calls Yba.prog 7 #[.int .i64 c] w fun e w' => e = .returned (.tuple #[.pointer (some ⟨w.heap.size, 0, none⟩), .slice (some ⟨w.heap.size + 1, 0, none⟩) c c]) ∧ w'.heap.size = w.heap.size + 2 + c ∧
      Q w.heap.size c c w w' (ptr w.heap.size 0) (ptr w.heap.size (c - 1)) (ptr w.heap.size) (fun i => if i = 0 then nul else ptr w.heap.size (i - 1)) (fun i => if i + 1 < c then ptr w.heap.size (i + 1) else nul) := by
  have hmk := run_make_row' (P := Yba.prog) 24 27 (.pointer none) 8 Yba.underlying24 info27 rfl .i64 .i64 c (by omega) (by omega)
  go_enter Yba.func7, Yba.ntmps7
  go_wp2
  go_loopw [6] (fun i wr => ∃ k : Nat, k ≤ c ∧ i = .int .i64 k ∧ wr.heap.size = w.heap.size + 2 + k ∧ Q w.heap.size c k w wr nul nul (arK w.heap.size k) (fun _ => nul) (fun _ => nul))
    (fun i _ => c - (intOf i).toNat)
  case atStart => exact ⟨0, Nat.zero_le _, rfl, by simp, (start c w _ _ _ _ rfl rfl).congr rfl rfl (fun i _ => by unfold arK; rw [if_neg (by omega)]) (fun _ _ => rfl) (fun _ _ => rfl)⟩
  case round =>
    obtain ⟨k, hk, rfl, hs, hQ⟩ := hrel
    have HS : Hid (wr.heap.size = w.heap.size + 2 + k) := hs
    have z1 : w.heap.size + 1 < wr.heap.size := by omega
    clear hmk hs
    by_cases hlt : k < c
    · have a1 := hQ.arr k hlt
      have f1 := hQ.free (w.heap.size + 1) k (by omega) (by omega)
      have e1 : arK w.heap.size k k = .pointer none := by unfold arK nul; rw [if_neg (by omega)]
      rw [e1] at a1
      clear e1
      have HQ : Hid _ := hQ
      clear hQ
      go_wp2
      go_roundw
      case rel =>
        refine ⟨k + 1, by omega, by go_num, ?_, ?_⟩
        · have := HS.out; simp [World.setCell]; omega
        · have hs := HS.out
          refine ((HQ.out.setArr k hlt (.pointer (some ⟨wr.heap.size, 0, none⟩))).push (by simpa [World.setCell] using hs) _ 36 nul nul rfl rfl).congr rfl rfl (fun i hi => ?_) (fun i hi => ?_) (fun i hi => ?_)
          · by_cases e : i = k
            · subst e; rw [upd_same]; unfold arK ptr; rw [if_pos (by omega), hs]
            · rw [upd_other _ _ e]; unfold arK; by_cases h : i < k
              · rw [if_pos h, if_pos (by omega)]
              · rw [if_neg h, if_neg (by omega)]
          · unfold upd; split <;> rfl
          · unfold upd; split <;> rfl
      case measure => simp [intOf]; omega
    · have ek : k = c := by omega
      have HE : Hid (k = c) := ek
      have hQ2 : Q w.heap.size c c w wr nul nul (ptr w.heap.size) (pvK w.heap.size 0) (nxK w.heap.size c 0) := by
        subst ek
        exact hQ.congr rfl rfl (fun i hi => by unfold arK; rw [if_pos hi]) (fun i _ => by unfold pvK; rw [if_neg (by omega)]) (fun i _ => by unfold nxK; rw [if_neg (by omega)])
      have HQ2 : Hid _ := hQ2
      clear hQ hQ2 ek
      go_wp2
      obtain ⟨wo, hwo⟩ : ∃ wo : World, wo = wr := ⟨_, rfl⟩
      have HS2 : Hid (wo.heap.size = w.heap.size + 2 + c) := by have := HS.out; have := HE.out; subst hwo; show _ = _; omega
      rw [← hwo] at HQ2 z1 ⊢
      clear hwo HS
      go_loopw [7] (fun i wv => ∃ j : Nat, j ≤ c ∧ i = .int .i64 j ∧ wv.heap.size = w.heap.size + 2 + c ∧ Q w.heap.size c c w wv nul nul (ptr w.heap.size) (pvK w.heap.size j) (nxK w.heap.size c j))
        (fun i _ => c - (intOf i).toNat)
      case atStart => exact ⟨0, Nat.zero_le _, rfl, HS2.out, HQ2.out⟩
      case round =>
        obtain ⟨j, hj, rfl, hs, hQ⟩ := hrel
        have HS3 : Hid (wr.heap.size = w.heap.size + 2 + c) := hs
        clear hs HS2 HQ2
        by_cases hlt2 : j < c
        · have a0 := hQ.arr j hlt2
          have p0 := hQ.prev j hlt2
          have n0 := hQ.next j hlt2
          have e1 : pvK w.heap.size j j = .pointer none := by unfold pvK nul; rw [if_neg (by omega)]
          have e2 : nxK w.heap.size c j j = .pointer none := by unfold nxK nul; rw [if_neg (by omega)]
          rw [e1] at p0
          rw [e2] at n0
          unfold ptr at a0
          clear e1 e2
          have f1 := hQ.free (w.heap.size + 2 + j) 3 (by omega) (by omega)
          have f2 := hQ.free (w.heap.size + 2 + j) 4 (by omega) (by omega)
          by_cases hl3 : j + 1 < c
          · have a1 := hQ.arr (j + 1) hl3
            unfold ptr at a1
            have hl3' : (j : Int) + 1 < (c : Int) := by omega
            cases j with
            | zero =>
              have HQ : Hid _ := hQ
              clear hQ
              go_wp2
              go_region
              go_wp2
              go_roundw
              case rel => exact ⟨0 + 1, by omega, by go_num, by have := HS3.out; simpa [World.setCell] using this, (HQ.out.setNext 0 hlt2 _).drew.congr rfl rfl (fun _ _ => rfl) (fun i _ => by unfold pvK; rw [if_neg (by omega), if_neg (by omega)]) (fun i _ => nxK_next hl3)⟩
              case measure => simp [intOf]; omega
            | succ i =>
              have a2 := hQ.arr i (by omega)
              unfold ptr at a2
              have HQ : Hid _ := hQ
              clear hQ
              go_wp2
              go_region
              go_wp2
              go_region
              go_wp2
              go_roundw
              case rel => exact ⟨i + 1 + 1, by omega, by go_num, by have := HS3.out; simpa [World.setCell] using this, ((HQ.out.setPrev (i + 1) hlt2 _).setNext (i + 1) hlt2 _).drew.drew.congr rfl rfl (fun _ _ => rfl) (fun i _ => pvK_next) (fun i _ => nxK_next hl3)⟩
              case measure => simp [intOf]; omega
          · have hl3' : (c : Int) ≤ (j : Int) + 1 := by omega
            cases j with
            | zero =>
              have HQ : Hid _ := hQ
              clear hQ
              go_wp2
              go_roundw
              case rel => exact ⟨0 + 1, by omega, by go_num, HS3.out, HQ.out.congr rfl rfl (fun _ _ => rfl) (fun i _ => by unfold pvK; rw [if_neg (by omega), if_neg (by omega)]) (fun i _ => nxK_stop hl3)⟩
              case measure => simp [intOf]; omega
            | succ i =>
              have a2 := hQ.arr i (by omega)
              unfold ptr at a2
              have HQ : Hid _ := hQ
              clear hQ
              go_wp2
              go_region
              go_wp2
              go_roundw
              case rel => exact ⟨i + 1 + 1, by omega, by go_num, by have := HS3.out; simpa [World.setCell] using this, (HQ.out.setPrev (i + 1) hlt2 _).drew.congr rfl rfl (fun _ _ => rfl) (fun i _ => pvK_next) (fun i _ => nxK_stop hl3)⟩
              case measure => simp [intOf]; omega
        · have ej : j = c := by omega
          have a0 := hQ.arr 0 (by omega)
          have a1 := hQ.arr (c - 1) (by omega)
          have q1 := hQ.first
          have q2 := hQ.last
          have f1 := hQ.free w.heap.size 4 (by omega) (by omega)
          have f2 := hQ.free w.heap.size 5 (by omega) (by omega)
          unfold ptr at a0 a1
          unfold nul at q1 q2
          have EJ : Hid (j = c) := ej
          have HQ : Hid _ := hQ
          clear hQ ej
          go_wp2
          go_ret2
          refine ⟨rfl, by have := HS3.out; simpa [World.setCell] using this, ?_⟩
          refine ((HQ.out.setFirst _).setLast _).congr rfl rfl (fun _ _ => rfl) (fun i hi => ?_) (fun i hi => ?_)
          · have := EJ.out
            unfold pvK
            by_cases e : i = 0
            · rw [if_neg (by omega), if_pos e]
            · rw [if_pos (by omega), if_neg e]
          · have := EJ.out
            unfold nxK
            by_cases e : i + 1 < c
            · rw [if_pos (by omega), if_pos e]
            · rw [if_neg (by omega), if_neg e]
end Go.Proofs.Ybulkbrmm.Qu

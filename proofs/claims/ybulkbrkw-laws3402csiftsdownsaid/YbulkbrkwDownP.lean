/-
  The plain law of '(*leafHeap).down': no Go in sight.
-/
import Derived.Test.YbulkbrkwHeap
namespace Go.Proofs.Ybulkbrkw.Hp
open Go.RowKit Go.Sort

def top1 (d : Array Int) (n i : Nat) : Nat := if 2 * i + 1 < n ∧ d[i]! < d[2 * i + 1]! then 2 * i + 1 else i
def top2 (d : Array Int) (n i : Nat) : Nat := if 2 * i + 2 < n ∧ d[top1 d n i]! < d[2 * i + 2]! then 2 * i + 2 else top1 d n i

/-- Each child but i0 is below its parent. -/
def Ordered (i0 : Nat) (d : Array Int) : Prop := ∀ c, 0 < c → c < d.size → c ≠ i0 → d[c]! < d[(c - 1) / 2]!

structure Inv (i0 i : Nat) (d0 d : Array Int) : Prop where
  perm : d.toList.Perm d0.toList
  le : i0 ≤ i
  J : ∀ c, 0 < c → c < d.size → c ≠ i0 → (c - 1) / 2 ≠ i → d[c]! < d[(c - 1) / 2]!
  K : i ≠ i0 → ∀ c, 0 < c → c < d.size → (c - 1) / 2 = i → d[c]! < d[(i - 1) / 2]!

theorem apart_iff (d : Array Int) : Apart d ↔ d.toList.Nodup := by
  unfold List.Nodup
  rw [List.pairwise_iff_getElem]
  constructor
  · intro h i j hi hj hij e
    simp only [Array.length_toList] at hi hj
    have := h i j hi hj (by simpa [getElem!_pos, hi, hj] using e)
    omega
  · intro h i j hi hj e
    rcases Nat.lt_trichotomy i j with l | l | l
    · have t := h i j (by simpa using hi) (by simpa using hj) l
      rw [getElem!_pos d i hi, getElem!_pos d j hj] at e
      simp only [Array.getElem_toList] at t
      exact absurd e t
    · exact l
    · have t := h j i (by simpa using hj) (by simpa using hi) l
      rw [getElem!_pos d i hi, getElem!_pos d j hj] at e
      simp only [Array.getElem_toList] at t
      exact absurd e.symm t

theorem swp_perm (d : Array Int) (i j : Nat) (hi : i < d.size) (hj : j < d.size) : (swp d i j).toList.Perm d.toList := by
  have e : swp d i j = d.swap i j hi hj := by
    unfold swp
    rw [Array.swap_def]
    simp [Array.setIfInBounds, hi, hj, getElem!_pos]
  rw [e]
  exact (Array.swap_perm hi hj).toList

theorem fits_iff (d : Array Int) : Fits d ↔ ∀ x ∈ d.toList, (Lit.int .i64 x).wf = true := by
  constructor
  · intro h x hx
    obtain ⟨i, hi, rfl⟩ := List.getElem_of_mem hx
    simp only [Array.length_toList] at hi
    have := h i hi
    simpa [getElem!_pos, hi] using this
  · intro h i hi
    exact h _ (by simp [getElem!_pos, hi])

theorem Inv.apart {i0 i : Nat} {d0 d : Array Int} (h : Inv i0 i d0 d) (hA : Apart d0) : Apart d := by
  rw [apart_iff] at hA ⊢; exact h.perm.nodup_iff.2 hA
theorem Inv.fits {i0 i : Nat} {d0 d : Array Int} (h : Inv i0 i d0 d) (hA : Fits d0) : Fits d := by
  rw [fits_iff] at hA ⊢; exact fun x hx => hA x (h.perm.mem_iff.1 hx)

theorem top1_lt {d : Array Int} {n i : Nat} : top1 d n i = i ∨ top1 d n i = 2 * i + 1 ∧ 2 * i + 1 < n ∧ d[i]! < d[2 * i + 1]! := by
  unfold top1; split
  · rename_i h; exact .inr ⟨rfl, h.1, h.2⟩
  · exact .inl rfl

theorem top2_eq {d : Array Int} {n i : Nat} : top2 d n i = i ∨ (top2 d n i = 2 * i + 1 ∨ top2 d n i = 2 * i + 2) ∧ top2 d n i < n ∧ d[i]! < d[top2 d n i]! := by
  unfold top2
  split
  · rename_i h
    rcases top1_lt (d := d) (n := n) (i := i) with e | ⟨e, h1, h2⟩
    · rw [e] at h; exact .inr ⟨.inr rfl, h.1, h.2⟩
    · rw [e] at h; exact .inr ⟨.inr rfl, h.1, Int.lt_trans h2 h.2⟩
  · rcases top1_lt (d := d) (n := n) (i := i) with e | ⟨e, h1, h2⟩
    · exact .inl e
    · rw [e]; exact .inr ⟨.inl rfl, h1, h2⟩

theorem top2_max {d : Array Int} {n i c : Nat} (hn : d.size = n) (hA : Apart d) (hc : c < n) (hp : 0 < c ∧ (c - 1) / 2 = i) : c = top2 d n i ∨ d[c]! < d[top2 d n i]! := by
  have hcc : c = 2 * i + 1 ∨ c = 2 * i + 2 := by omega
  have hlt : ∀ a b, a < n → b < n → a ≠ b → ¬ d[a]! < d[b]! → d[b]! < d[a]! := by
    intro a b ha hb hab h
    have : d[a]! ≠ d[b]! := fun e => hab (hA a b (by omega) (by omega) e)
    omega
  have h1 : 2 * i + 1 < n → 2 * i + 1 = top1 d n i ∨ d[2 * i + 1]! < d[top1 d n i]! := by
    intro h
    unfold top1
    split
    · exact .inl rfl
    · rename_i h'
      exact .inr (hlt _ _ (by omega) h (by omega) (fun e => h' ⟨h, e⟩))
  unfold top2
  split
  · rename_i h
    rcases hcc with rfl | rfl
    · rcases h1 hc with e | e
      · right; rw [← e] at h; exact h.2
      · right; exact Int.lt_trans e h.2
    · exact .inl rfl
  · rename_i h
    rcases hcc with rfl | rfl
    · exact h1 hc
    · right
      refine hlt _ _ ?_ hc ?_ (fun e => h ⟨hc, e⟩)
      · rcases top1_lt (d := d) (n := n) (i := i) with e | ⟨e, h1, h2⟩ <;> omega
      · rcases top1_lt (d := d) (n := n) (i := i) with e | ⟨e, h1, h2⟩ <;> omega

theorem Inv.done {i0 i : Nat} {d0 d : Array Int} (h : Inv i0 i d0 d) (hA : Apart d) (ht : top2 d d.size i = i) : Ordered i0 d := by
  intro c h0 hc hne
  by_cases hp : (c - 1) / 2 = i
  · rcases top2_max rfl hA hc ⟨h0, hp⟩ with e | e
    · omega
    · rw [ht] at e; rw [hp]; exact e
  · exact h.J c h0 hc hne hp

theorem Inv.step {i0 i : Nat} {d0 d : Array Int} (h : Inv i0 i d0 d) (hA : Apart d) (ht : top2 d d.size i ≠ i) : Inv i0 (top2 d d.size i) d0 (swp d i (top2 d d.size i)) := by
  obtain ⟨hc, hlt, hgt⟩ := (top2_eq (d := d) (n := d.size) (i := i)).resolve_left ht
  have hmax := fun c (hc : c < d.size) hp => top2_max (c := c) (i := i) rfl hA hc hp
  generalize top2 d d.size i = t at *
  have hi : i < d.size := by omega
  have hit : i ≠ t := fun e => ht e.symm
  have hpt : (t - 1) / 2 = i := by omega
  refine ⟨?_, ?_, ?_, ?_⟩
  · exact (swp_perm d i t hi hlt).trans h.perm
  · have := h.le; omega
  · intro c h0 hcs hne hp
    rw [size_swp] at hcs
    by_cases hpi : (c - 1) / 2 = i
    · rw [hpi, swp_left d i t hi hit]
      by_cases e : c = t
      · subst e; rw [swp_right d i c hlt]; exact hgt
      · rw [swp_other d i t c (by omega) e]
        exact (hmax c hcs ⟨h0, hpi⟩).resolve_left e
    · rw [swp_other d i t ((c - 1) / 2) hpi hp]
      by_cases e : c = i
      · subst e
        rw [swp_left d c t hi hit]
        exact h.K hne t (by omega) hlt hpt
      · have e2 : c ≠ t := fun e2 => hpi (by rw [e2]; exact hpt)
        rw [swp_other d i t c e e2]
        exact h.J c h0 hcs hne hpi
  · intro hne c h0 hcs hp
    rw [size_swp] at hcs
    have := h.le
    rw [hpt, swp_left d i t hi hit, swp_other d i t c (by omega) (by omega), ← hp]
    exact h.J c h0 hcs (by omega) (by omega)

end Go.Proofs.Ybulkbrkw.Hp

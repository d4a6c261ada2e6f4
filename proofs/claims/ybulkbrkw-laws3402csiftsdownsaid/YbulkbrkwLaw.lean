/-
  The walk of 'consensus.LawS3402CSiftsDown'.
-/
import Derived.Test.YbulkbrkwLawP
import Derived.Deep.Cut
import Derived.Maps.OwnOps
namespace Go.Proofs.Ybulkbrkw.lawS3402CSiftsDown
open Go.RowKit Go.Sort Go.Maps Hp

set_option maxHeartbeats 4000000 in
set_option maxRecDepth 100000 in
theorem walkS (a0 : Option Addr) (n cap0 : Nat) (z0 : List Int) (a1 : Int) (a2 : Int) (a3 : Int) (w : World) (hn : n ≤ 1024) (w0 : IsRow .i16 w a0 n cap0 z0) (b1 : 0 ≤ a1 ∧ a1 ≤ 65535) (b2 : -32768 ≤ a2 ∧ a2 ≤ 32767) (b3 : 0 ≤ a3 ∧ a3 ≤ 65535) :
    Calls Yba.prog 3 #[.slice a0 n cap0, .int .u16 a1, .int .i16 a2, .int .u16 a3] w fun e w' => e = .returned (.bool true) ∧ Below w.heap.size w w' := by
  have hmk := make27 n hn
  have hmm := makeMap30 n
  have h63 : Hid ((z0.take n).length = n) := w0.len
  have hwf : Hid (∀ x ∈ z0, (Lit.int .i16 x).wf = true) := w0.wf
  obtain ⟨B1, B1'⟩ := b1
  obtain ⟨B2, B2'⟩ := b2
  obtain ⟨B3, B3'⟩ := b3
  go_enter Yba.func3, Yba.ntmps3
  go_wp2_with (first
    | (go_at_call 4; refine (clone16 a0 n cap0 z0 w w0 hn).mono ?_; rintro e w1 ⟨p, c, rfl, r1, l1⟩)
    | (go_at_call 5; refine (sort16 p n c _ _ w1 r1 hn).mono ?_; rintro e w2 ⟨rfl, r2, l2⟩)
    | (go_at_call 6; refine (reverse16 p n c _ _ w2 r2 hn).mono ?_; rintro e w3 ⟨rfl, r3, l3⟩))
  have L3 : Hid (Below w.heap.size w w3) := (l1.trans l2).trans l3
  have R3 : Hid (Row (Value.int .i16) w3 w.heap.size p n (desc z0 n)) := by
    show Row _ _ _ _ _ _
    simpa [desc] using r3
  obtain ⟨S, hS⟩ : ∃ S, S = desc z0 n := ⟨_, rfl⟩
  rw [← hS] at R3
  have sS : Hid (S.size = n) := by rw [hS]; exact desc_size h63.out
  have wS : Hid (∀ j, j < S.size → -32768 ≤ S[j]! ∧ S[j]! ≤ 32767) := by rw [hS]; exact desc_wf hwf.out
  have dS : Hid (∀ j k, j ≤ k → k < S.size → S[k]! ≤ S[j]!) := by rw [hS]; exact fun j k => desc_le
  have lw3 : w.heap.size ≤ w3.heap.size := L3.out.size
  clear r1 r2 r3 l1 l2 l3 hS w0 h63 hwf
  clear w1 w2
  go_loopw [12] (fun s12 wr => ∃ k, k ≤ n ∧ s12 = .int .i64 (k : Nat) ∧ Fill w3 wr w3.heap.size n k (it S n)) (fun s12 _ => n - (intOf s12).toNat)
  case atStart => exact ⟨0, Nat.zero_le _, rfl, fill_start w3 n _⟩
  case round =>
    obtain ⟨k, hk, rfl, hf⟩ := hrel
    by_cases hlt : k < n
    · obtain ⟨b, rfl, hB, hb, hH⟩ := R3.out.2.resolve_left (by omega)
      obtain ⟨x, hx⟩ : ∃ x, x = S[k]! := ⟨_, rfl⟩
      have e0 := (hH k (by rw [sS.out]; exact hlt)).1
      rw [Nat.zero_add] at e0
      have c1 := (hf.below.cell (p := ⟨b, k, none⟩) hb).trans e0
      clear e0
      rw [← hx] at c1
      have c2 := hf.cell k hlt
      rw [if_neg (Nat.lt_irrefl k)] at c2
      have c3 := hf.free k
      obtain ⟨x1, x2⟩ := wS.out k (by rw [sS.out]; exact hlt)
      rw [← hx] at x1 x2
      have HF : Hid (Fill w3 wr w3.heap.size n k (it S n)) := hf
      have HX : Hid (x = S[k]!) := hx
      clear hf hH hx
      go_wp2
      go_roundw
      case measure => simp [intOf]; omega
      case rel =>
        refine ⟨k + 1, hlt, by go_num, ?_⟩
        have := fill_step HF.out hlt
        unfold it at this
        rw [← HX.out] at this
        exact this
    · obtain rfl : n = k := by omega
      have HF : Hid (Fill w3 wr w3.heap.size n n (it S n)) := hf
      clear hf hk hlt
      go_upto_if 57 with fail
      go_cut [13] from 56 (fun s13 wx => ∃ i : Nat, s13 = .int .i64 i ∧ (i < n ∨ n = 0 ∧ i = 0) ∧ wx = wr)
      case first =>
        rcases Nat.eq_zero_or_pos n with h0 | h0
        · have h0' : decide ((n : Int) > 0) = false := decide_eq_false (by omega)
          go_wp2_with fail
          go_meet
          case rel => exact ⟨0, rfl, .inr ⟨h0, rfl⟩, rfl⟩
        · have h0' : (n : Int) > 0 := by omega
          go_wp2_with fail
          go_meet
          case rel =>
            have e := Int.toNat_of_nonneg (Int.emod_nonneg a1 (show (n : Int) ≠ 0 by omega))
            have e2 := Int.emod_lt_of_pos a1 h0'
            exact ⟨(a1 % (n : Int)).toNat, by rw [e], .inl (by omega), rfl⟩
      case rest =>
        obtain ⟨i, rfl, hi, rfl⟩ := hcut
        go_upto_if 72 with fail
        obtain ⟨x, hx⟩ : ∃ x, x = a2 * 4096 + 2 * (a3 % 1024) + 1 := ⟨_, rfl⟩
        have xo : Hid (x % 2 = 1) := by show x % 2 = 1; omega
        have xb : Hid (-134217728 ≤ x ∧ x ≤ 134300000) := by show _ ∧ _; omega
        rw [← hx]
        clear hx
        go_cut [14] from 71 (fun s14 wx => s14 = .int .i64 x ∧ Own w3 wx w3.heap.size (its S n i x))
        case first =>
          rcases hi with h0 | ⟨h0, h0i⟩
          · have h0' : (n : Int) > 0 := by omega
            have c2 := HF.out.cell i h0
            rw [if_pos h0] at c2
            have c3 := HF.out.free i
            have i1 : (i : Int) < (n : Int) := by omega
            generalize it S n i = y at c2
            go_wp2_with fail
            go_meet
            case rel => exact ⟨rfl, own_set HF.out h0⟩
          · have h0' : decide ((n : Int) > 0) = false := decide_eq_false (by omega)
            go_wp2_with fail
            go_meet
            case rel =>
              subst h0
              exact ⟨rfl, own_zero HF.out⟩
        case rest =>
          obtain ⟨rfl, ho⟩ := hcut
          have dA : Hid (Apart (its S n i x)) := its_apart sS.out dS.out xo.out
          have dF : Hid (Fits (its S n i x)) := its_fits hn sS.out wS.out xb.out
          have dI : Hid (Inv i i (its S n i x) (its S n i x)) := its_inv sS.out dS.out
          have dz : Hid ((its S n i x).size = n) := its_size _ _ _ _
          obtain ⟨d, hd⟩ : ∃ d, d = its S n i x := ⟨_, rfl⟩
          rw [← hd] at dA dF dI dz ho
          have hi' : i ≤ 1024 := by omega
          have LC : Hid (Below w.heap.size w wc) := L3.out.trans (ho.below.mono lw3)
          have hib : w3.heap.size < wc.heap.size := ho.lt
          have HI : Hid (Holds (Value.int .i64) wc w3.heap.size 0 d) := ho.holds
          have lw : w.heap.size ≤ w3.heap.size := lw3
          clear hd ho R3 sS wS dS HF L3 xo xb lw3 hmk
          generalize w3.heap.size = ib at *
          go_wp2_with (first
            | (go_at_call 7; refine (clone64 ib n n d wc dz.out hn HI.out).mono ?_; rintro e w4 ⟨p4, c4, rfl, r4, l4⟩)
            | (go_at_call 8; refine (sort64 p4 n c4 _ _ w4 r4 hn).mono ?_; rintro e w5 ⟨rfl, r5, l5⟩))
          have LB : Hid (Below wc.heap.size wc w5) := l4.trans l5
          have L5 : Hid (Below w.heap.size w w5) := LC.out.trans (LB.out.mono (by omega))
          have HI5 : Hid (Holds (Value.int .i64) w5 ib 0 d) := holds_of HI.out (LB.out.block ib hib)
          have R5 : Hid (Row (Value.int .i64) w5 wc.heap.size p4 n (d.toList.mergeSort fun x y => decide (x ≤ y)).toArray) := r5
          have hib5 : ib < w5.heap.size := Nat.lt_of_lt_of_le hib LB.out.size
          have hw5 : w.heap.size ≤ w5.heap.size := L5.out.size
          clear r4 l4 r5 l5 LB LC HI hmm
          clear w4
          go_loopw [17] (fun s17 wr => ∃ k, k ≤ n ∧ s17 = .int .i64 (k : Nat) ∧ MapFill w5 wr w5.heap.size k d) (fun s17 _ => n - (intOf s17).toNat)
          case atStart => exact ⟨0, Nat.zero_le _, rfl, mapFill_start w5 d⟩
          case round =>
            obtain ⟨k, hk, rfl, hf⟩ := hrel
            by_cases hlt : k < n
            · obtain ⟨y, hy⟩ : ∃ y, y = d[k]! := ⟨_, rfl⟩
              have e0 := (HI5.out k (by rw [dz.out]; exact hlt)).1
              rw [Nat.zero_add] at e0
              have c1 := (hf.below.cell (p := ⟨ib, k, none⟩) hib5).trans e0
              rw [← hy] at c1
              obtain ⟨w', run, hf'⟩ := mapFill_step hf dA.out dF.out (by rw [dz.out]; exact hlt) (by rw [dz.out]; exact hn)
              rw [← hy] at run
              have HF' : Hid (MapFill w5 w' w5.heap.size (k + 1) d) := hf'
              clear hf hf' e0 hy
              go_wp2
              go_roundw
              case measure => simp [intOf]; omega
              case rel => exact ⟨k + 1, hlt, by go_num, HF'.out⟩
            · obtain rfl : n = k := by omega
              have hm := heap_here dz.out hib5 rfl HI5.out hf
              have L6 : Hid (Below w.heap.size w wr) := L5.out.trans (hf.below.mono hw5)
              have L56 : Hid (Below w5.heap.size w5 wr) := hf.below
              have hw6 : w5.heap.size ≤ wr.heap.size := hf.below.size
              clear hf hk hlt
              go_wp2_with (first
                | (go_at_call 10; refine (down _ ib w5.heap.size n i _ d hm dA.out dF.out dI.out hi' hn).mono ?_; rintro e w7 ⟨rfl, d', hm', hpm, hor, ht⟩
                   have c0 := hm'.c0
                   have c1 := hm'.c1
                   have hln := hm_len hm'
                   have HPM : Hid (d'.toList.Perm d.toList) := hpm
                   have HOR : Hid (Ordered i d') := hor
                   have sz7 := ht.size
                   clear hpm hor)
                | (go_at_call 7; refine (clone64 ib n n d' w7 hm'.sz hn hm'.items).mono ?_; rintro e w8 ⟨p8, c8, rfl, r8, l8⟩)
                | (go_at_call 8; refine (sort64 p8 n c8 _ _ w8 r8 hn).mono ?_; rintro e w9 ⟨rfl, r9, l9⟩)
                | (go_at_call 11; refine (equal64 p8 p4 n c8 c4 _ _ _ w9 r9 (sort_eq HPM.out ▸ want_carry R5.out L56.out ht (l8.trans l9) hib) hn).mono ?_; rintro e w10 ⟨rfl, q, rfl⟩))
              rw [World.size_alloc] at sz7
              have L9 : Hid (Below w.heap.size w (w9.drewN q)) := by
                have h := below_carry L6.out (by omega) ht lw hw5 (l8.trans l9) (by omega)
                exact ⟨h.os, h.tape, h.output, h.size, h.block⟩
              have HM9 : Hid (HM wr.heap.size ib w5.heap.size n (w9.drewN q) d') := (hm_keep hm' (l8.trans l9) (by omega) (by omega) (by omega)).drewN q
              have dF' : Hid (Fits d') := fits_perm HPM.out dF.out
              clear hm hm' c0 c1 hln HPM sz7 ht r8 l8 r9 l9 R5 L6 L56 hw6 hw5 hib hib5 HI5 L5 dA dF dI dz lw
              generalize wr.heap.size = hb at *
              generalize w5.heap.size = mb at *
              generalize w9.drewN q = W9 at *
              go_loopw [20] (fun s20 wr => ∃ k, k ≤ n ∧ s20 = .int .i64 (k : Nat) ∧ HM hb ib mb n wr d' ∧ Below w.heap.size w wr) (fun s20 _ => n - (intOf s20).toNat)
              case atStart => exact ⟨0, Nat.zero_le _, rfl, HM9.out, L9.out⟩
              case round =>
                obtain ⟨k, hk, rfl, hm, hl⟩ := hrel
                have HMr : Hid (HM hb ib mb n wr d') := hm
                have HLr : Hid (Below w.heap.size w wr) := hl
                by_cases hlt : k < n
                · have c0 := hm.c0
                  have c1 := hm.c1
                  obtain ⟨y, hy⟩ : ∃ y, y = d'[k]! := ⟨_, rfl⟩
                  have cy := (hm.items k (by rw [hm.sz]; exact hlt)).1
                  rw [← hy, Nat.zero_add] at cy
                  have lk := hm_look hm dF'.out hlt
                  rw [← hy] at lk
                  have k1 : (k : Int) < (n : Int) := by omega
                  clear hm hl hy
                  go_wp2_with fail
                  go_region
                  all_goals go_wp2
                  go_roundw
                  case measure => simp [intOf]; omega
                  case rel => exact ⟨k + 1, hlt, by go_num, HMr.out.drewN 1, HLr.out.drew⟩
                · obtain rfl : n = k := by omega
                  clear hm hl hk hlt HM9 L9
                  obtain ⟨wp, rfl⟩ : ∃ wp : World, wp = wr := ⟨_, rfl⟩
                  go_wp2_with fail
                  go_loopw [23] (fun s23 wr => ∃ c : Nat, 1 ≤ c ∧ s23 = .int .i64 c ∧ c ≤ 1025 ∧ HM hb ib mb n wr d' ∧ Below w.heap.size w wr) (fun s23 _ => n - (intOf s23).toNat)
                  case atStart => exact ⟨1, Nat.le_refl _, rfl, by omega, HMr.out, HLr.out⟩
                  case round =>
                    obtain ⟨m, hm1, rfl, hm2, hm, hl⟩ := hrel
                    have HMq : Hid (HM hb ib mb n wr d') := hm
                    have HLq : Hid (Below w.heap.size w wr) := hl
                    by_cases hlt : m < n
                    · by_cases e : m = i
                      · subst e
                        clear hm hl
                        go_wp2_with fail
                        go_roundw
                        case measure => simp [intOf]; omega
                        case rel => exact ⟨m + 1, by omega, by go_num, by omega, HMq.out, HLq.out⟩
                      · have c0 := hm.c0
                        have hlt2 := HOR.out m (by omega) (by rw [hm.sz]; exact hlt) e
                        obtain ⟨y, hy⟩ : ∃ y, y = d'[m]! := ⟨_, rfl⟩
                        obtain ⟨x2, hx2⟩ : ∃ x2, x2 = d'[(m - 1) / 2]! := ⟨_, rfl⟩
                        have cy := (hm.items m (by rw [hm.sz]; exact hlt)).1
                        rw [← hy, Nat.zero_add] at cy
                        have cx := (hm.items ((m - 1) / 2) (by rw [hm.sz]; omega)).1
                        rw [← hx2, Nat.zero_add] at cx
                        rw [← hy, ← hx2] at hlt2
                        have k1 : (m : Int) < (n : Int) := by omega
                        have g : x2 > y := hlt2
                        clear hm hl hy hx2
                        go_wp2_with fail
                        go_region
                        all_goals go_wp2
                        go_roundw
                        case measure => simp [intOf]; omega
                        case rel => exact ⟨m + 1, by omega, by go_num, by omega, HMq.out.drewN 1, HLq.out.drew⟩
                    · clear hm hl
                      go_wp2_with fail
                      go_ret
                      exact ⟨rfl, HLq.out⟩
end Go.Proofs.Ybulkbrkw.lawS3402CSiftsDown

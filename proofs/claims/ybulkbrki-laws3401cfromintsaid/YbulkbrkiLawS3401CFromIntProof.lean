/-
  The proof of 'Rows.LawS3401CFromIntSaid' (decimal.LawS3401CFromInt), on the frame that the seat's shell gives, with 'Below' in the place of 'Grown'.
-/
import Derived.Test.YbulkbrkiRows
import Derived.Test.YbulkbrkiFromInt
import Derived.WalkKit
import Derived.ProofKit
import Derived.OpenShut
import Derived.ShutString
namespace Go.Proofs.Ybulkbrki.lawS3401CFromInt
open Go.ChangeShapes Go.WideShapes Go.ChangeAt Go.RowKit
open Go.ChangeMaps (open_string shut_string)
set_option linter.unusedVariables false      -- a walk need not use every 'w<i>' (that an integer argument fits its kind)

theorem own : ownKnob Yba.prog.godebug = none := by kernel_rfl

theorem least_neg {a : Int} (h : a = -9223372036854775808) : a < 0 := by omega
theorem least_wrap {a : Int} (h : a = -9223372036854775808) : (IntKind.u64.wrap (wrap64 (-a)) == 0) = false := by
  have e : IntKind.u64.wrap (wrap64 (-a)) = 9223372036854775808 := by rw [IntKind.wrap_u64]; unfold wrap64; omega
  rw [e]; decide

/-! ### STEP 1: THE WALK: the Go text returns true. -/
theorem walk (a0 : Int) (w0 : (Lit.int .i64 a0).wf = true) (w : World) :
    Calls Yba.prog 6 #[.int .i64 a0] w fun e w' => e = .returned (.bool true) ∧ Below w.heap.size w w' := by
  by_cases h : a0 = -9223372036854775808
  · have hn : Hid ((a0 == -9223372036854775808) = true) := by rw [h]; rfl
    have hx := least_neg h
    have hz := least_wrap h
    clear h
    go_enter Yba.func6, Yba.ntmps6
    go_wp2_with (first | (go_at_call 12; refine (FromInt.least _ hn hx hz _).mono ?_; rintro e w1 ⟨⟨p, rfl⟩, hb1⟩) | (go_at_call 11; refine (Parts.heldB _ _ _ _).mono ?_; rintro e w2 ⟨rfl, hb2⟩))
    all_goals go_ret
    all_goals first | (exact ⟨rfl, hb1.trans (hb2.mono hb1.size)⟩) | (exfalso; have := hn.out; simp_all)
  · have hn : (a0 == -9223372036854775808) = false := by simpa using h
    clear h
    go_enter Yba.func6, Yba.ntmps6
    go_wp2_with (first | (go_at_call 12; refine (FromInt.plain _ hn _).mono ?_; rintro e w1 ⟨rfl, hb1⟩) | (go_at_call 11; refine (Parts.highB _ _ _ (by omega)).mono ?_; rintro e w2 ⟨rfl, hb2⟩))
    go_ret
    exact ⟨rfl, hb1.trans (hb2.mono hb1.size)⟩

/-! ### THE ROW's STEP: WRITTEN OUT: LEAVE IT -/
set_option maxRecDepth 100000 in
theorem lifted (os : Os) (started : os.Started) (H : Type) (enc : TypeId × Value → H) :
    ReturnsInHanded {} Yba.checked os 6 .any (Rows.lawS3401CFromIntSpec.pre6 enc Yba.prog Yba.f6 Rows.lawS3401CFromIntRow.domain false) (Rows.lawS3401CFromIntSpec.post enc Yba.prog Yba.f6 false true false false) := by
  refine returnsInHanded_of_change (C := Yba.checked) own started (by kernel_rfl) Yba.func6
    (ChangeSpec.witness6 (enc := enc) (C := Yba.checked) false ⟨#[], #[.int .i64 0], []⟩ 8 (by kernel_rfl) (by kernel_rfl) (by kernel_rfl) (by kernel_rfl)) ?_
  intro W base args ds gs before hval0 hW hcnd _
  have hval : ∀ (j : Nat) t v, Yba.f6.params[j]? = some t → args[j]? = some v → Value.okWide Yba.prog W .any base t v := hval0
  have hW' := hW
  obtain ⟨p, q, hA0, hV, rfl, hfz, hnd⟩ := hW
  have hA : DataW.TrodAll enc Yba.prog W 0 (fun _ => true) true Yba.f6.params.toList args.toList ds p := hA0
  rw [Yba.params6] at hA hval
  obtain ⟨v0, vs0, d0, ds0, p0, q0, hargs, rfl, rfl, h0, r0⟩ := trodAll_cons hA
  obtain ⟨rfl, rfl, rfl⟩ := trodAll_nil r0
  obtain rfl : args = #[v0] := by cases args; simp_all
  obtain ⟨rfl, rfl⟩ := trodVars_none hV
  obtain ⟨a0, rfl, rfl, rfl, w0⟩ := open_int Yba.underlying2 (hval 0 2 v0 rfl rfl) h0
  clear hA0 hval0
  simp only [List.append_nil] at hW'
  refine (walk a0 w0 W).mono fun e W' ⟨he, hg⟩ => ?_
  subst he
  exact ⟨_, rfl, _, _, _, [], _, [], hW', trodAll_mk1 (shut_bool Yba.underlying4 _), (trodAll_cons_mk (shut_int Yba.underlying2 w0) trodAll_mk0), rfl, hg.frame _, fun h => by cases h⟩

theorem over : Rows.lawS3401CFromIntRow.holds Yba.pinned (OpenSpec.ofChange Rows.lawS3401CFromIntSpec) :=
  OpenClaim.holds_of_wide 6 Yba.f6 rfl rfl rfl rfl rfl rfl rfl ⟨rfl, rfl, rfl, rfl, rfl⟩ rfl rfl rfl rfl rfl (by kernel_rfl) Yba.func6 (by kernel_rfl)
    (of_decide_eq_true (by kernel_rfl)) (by unfold Func.isWrapper; first | (rw [if_pos (by decide +kernel)]; kernel_rfl) | (rw [if_neg (by decide +kernel)]; exact ⟨rfl, rfl⟩))
    (fun os started H enc _ => lifted os started H enc)

/-- ████ THE STATEMENT ████ -/
theorem proved : Rows.LawS3401CFromIntSaid :=
  over
end Go.Proofs.Ybulkbrki.lawS3401CFromInt

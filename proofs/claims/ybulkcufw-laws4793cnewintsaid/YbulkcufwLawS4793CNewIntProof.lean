/-
  The proof of 'Rows.LawS4793CNewIntSaid', on the frame that the kit's skeleton wrote for this function.
-/
import Derived.Test.YbulkcufwRows
import Derived.Test.YbulkcufwSigns
import Derived.WalkKit
import Derived.ProofKit
import Derived.OpenShut
import Derived.ShutString
namespace Go.Proofs.Ybulkcufw.lawS4793CNewInt
open Go.ChangeShapes Go.WideShapes Go.ChangeAt Go.RowKit
open Go.ChangeMaps (open_string shut_string)
set_option linter.unusedVariables false      -- a walk need not use every 'w<i>' (that an integer argument fits its kind)

theorem own : ownKnob Yba.prog.godebug = none := by kernel_rfl

theorem no_bytes : (⟨#[]⟩ : ByteArray).toList.isEmpty = true := by decide +kernel

set_option maxHeartbeats 400000 in
theorem newInt_any (i : Int) (w : World) :
    Calls Yba.prog 14 #[.int .i64 i] w fun e w' => e = .returned (.agg #[.int .u32 1, .int .i64 i, .string ⟨#[]⟩]) ∧ Grew w w' := by
  go_enter Yba.func14, Yba.ntmps14
  go_wp2
  exact bodyPost_ret (v := .agg #[.int .u32 1, .int .i64 i, .string ⟨#[]⟩]) (by simp [results, Yba.results14, go_sem]) rfl ⟨rfl, by repeat (first | exact Grew.refl _ | apply Grew.drew | apply Grew.alloc)⟩

/-! ### STEP 1: THE WALK: the Go text returns true. 'Grown w w'': the world has at most new blocks (Derived/RowKit3.lean). Part the cases AHEAD of 'go_enter' where a test parts the walk; take each callee by a contract of your own. -/
theorem walk (a0 : Int) (w0 : (Lit.int .i64 a0).wf = true) (w : World) :
    Calls Yba.prog 7 #[.int .i64 a0] w fun e w' => e = .returned (.bool true) ∧ Grown w w' := by
  rcases Int.lt_trichotomy a0 0 with h | h | h
  · have hq := sgn_neg h
    go_enter Yba.func7, Yba.ntmps7
    go_wp2_with (first | (go_at_call 11; refine (sign_held _ _ _ _ no_bytes).mono ?_; rintro e w' ⟨rfl, hg⟩) | (go_at_call 14; refine (newInt_any _ _).mono ?_; rintro e w1 ⟨rfl, hg1⟩))
    go_ret
    exact ⟨rfl, (hg1.trans hg).1⟩
  · subst h
    have hq := sgn_zero
    go_enter Yba.func7, Yba.ntmps7
    go_wp2_with (first | (go_at_call 11; refine (sign_held _ _ _ _ no_bytes).mono ?_; rintro e w' ⟨rfl, hg⟩) | (go_at_call 14; refine (newInt_any _ _).mono ?_; rintro e w1 ⟨rfl, hg1⟩))
    go_ret
    exact ⟨rfl, (hg1.trans hg).1⟩
  · have hq := sgn_pos h
    go_enter Yba.func7, Yba.ntmps7
    go_wp2_with (first | (go_at_call 11; refine (sign_held _ _ _ _ no_bytes).mono ?_; rintro e w' ⟨rfl, hg⟩) | (go_at_call 14; refine (newInt_any _ _).mono ?_; rintro e w1 ⟨rfl, hg1⟩))
    go_ret
    exact ⟨rfl, (hg1.trans hg).1⟩

/-! ### THE ROW's STEP: WRITTEN OUT: LEAVE IT -/
set_option maxRecDepth 100000 in
theorem lifted (os : Os) (started : os.Started) (H : Type) (enc : TypeId × Value → H) :
    ReturnsInHanded {} Yba.checked os 7 .any (Rows.lawS4793CNewIntSpec.pre6 enc Yba.prog Yba.f7 Rows.lawS4793CNewIntRow.domain false) (Rows.lawS4793CNewIntSpec.post enc Yba.prog Yba.f7 false true false false) := by
  refine returnsInHanded_of_change (C := Yba.checked) own started (by kernel_rfl) Yba.func7
    (ChangeSpec.witness6 (enc := enc) (C := Yba.checked) false ⟨#[], #[.int .i64 0], []⟩ 8 (by kernel_rfl) (by kernel_rfl) (by kernel_rfl) (by kernel_rfl)) ?_
  intro W base args ds gs before hval0 hW hcnd _
  have hval : ∀ (j : Nat) t v, Yba.f7.params[j]? = some t → args[j]? = some v → Value.okWide Yba.prog W .any base t v := hval0
  have hW' := hW
  obtain ⟨p, q, hA0, hV, rfl, hfz, hnd⟩ := hW
  have hA : DataW.TrodAll enc Yba.prog W 0 (fun _ => true) true Yba.f7.params.toList args.toList ds p := hA0
  rw [Yba.params7] at hA hval
  obtain ⟨v0, vs0, d0, ds0, p0, q0, hargs, rfl, rfl, h0, r0⟩ := trodAll_cons hA
  obtain ⟨rfl, rfl, rfl⟩ := trodAll_nil r0
  obtain rfl : args = #[v0] := by cases args; simp_all
  obtain ⟨rfl, rfl⟩ := trodVars_none hV
  obtain ⟨a0, rfl, rfl, rfl, w0⟩ := open_int Yba.underlying2 (hval 0 2 v0 rfl rfl) h0
  clear hA0 hval0
  simp only [List.append_nil] at hW'
  refine (walk a0 w0 W).mono fun e W' ⟨he, hg⟩ => ?_
  subst he
  exact ⟨_, rfl, post_of_same (pa := []) (pv := []) hW' (fun _ _ _ => (trodAll_cons_mk (shut_bool Yba.underlying4 _) trodAll_mk0)) (fun sp _ => (trodAll_cons_mk (shut_int Yba.underlying2 w0) trodAll_mk0)) (fun _ _ => rfl) rfl
    (hg.frame _) hg.2.1 (ok_one (by kernel_rfl) rfl (okWide_bool_mk Yba.underlying4 _))⟩

theorem over : Rows.lawS4793CNewIntRow.holds Yba.pinned (OpenSpec.ofChange Rows.lawS4793CNewIntSpec) :=
  OpenClaim.holds_of_wide 7 Yba.f7 rfl rfl rfl rfl rfl rfl rfl ⟨rfl, rfl, rfl, rfl, rfl⟩ rfl rfl rfl rfl rfl (by kernel_rfl) Yba.func7 (by kernel_rfl)
    (of_decide_eq_true (by kernel_rfl)) (by unfold Func.isWrapper; first | (rw [if_pos (by decide +kernel)]; kernel_rfl) | (rw [if_neg (by decide +kernel)]; exact ⟨rfl, rfl⟩))
    (fun os started H enc _ => lifted os started H enc)

/-- ████ THE STATEMENT ████ -/
theorem proved : Rows.LawS4793CNewIntSaid :=
  over
#print axioms proved
end Go.Proofs.Ybulkcufw.lawS4793CNewInt

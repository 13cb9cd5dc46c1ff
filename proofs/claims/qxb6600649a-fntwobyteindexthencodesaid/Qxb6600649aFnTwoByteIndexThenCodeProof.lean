/-
  THE PROOF OF 'Rows.FnTwoByteIndexThenCodeSaid': the frame is the shell that the guide's tool wrote for this function; the walk is the seat's own.
-/
import Derived.Test.Qxb6600649aRows
import Derived.WalkKit
import Derived.ProofKit
import Derived.OpenShut
import Derived.ShutString
import Derived.Deep.QuietTactic
import Derived.BigQuiet
import Derived.Test.Qxb6600649aModel
namespace Go.Proofs.Qxb6600649a.fnTwoByteIndexThenCode
open Go.ChangeShapes Go.WideShapes Go.ChangeAt Go.RowKit
open Go.ChangeMaps (open_string shut_string)
set_option linter.unusedVariables false      -- a walk need not use every 'w<i>' (that an integer argument fits its kind)

theorem own : ownKnob Try.prog.godebug = none := by kernel_rfl

/-! ### STEP 1: THE WALK: the Go text returns true. 'Grown w w'': the world has at most new blocks (Derived/RowKit3.lean). Part the cases AHEAD of 'go_enter' where a test parts the walk; take each callee by a contract of your own. -/
set_option maxHeartbeats 400000 in
theorem walk (a0 : Int) (a1 : Int) (w0 : (Lit.int .u8 a0).wf = true) (w1 : (Lit.int .u8 a1).wf = true) (w : World) :
    Calls Try.prog 5 #[.int .u8 a0, .int .u8 a1] w fun e w' => e = .returned (.bool true) ∧ Grown w w' := by
  obtain ⟨l0, l1⟩ := bounds_u8 w0
  obtain ⟨l2, l3⟩ := bounds_u8 w1
  by_cases c0 : Parts.ldB a0 = true
  case neg =>
    have c0' : Parts.ldB a0 = false := by simpa using c0
    clear c0
    go_enter Try.func5, Try.ntmps5
    go_wp2_with (first | (go_at_call 11; refine (Parts.ld_any _ _).mono ?_; rintro e w' ⟨rfl, rfl⟩) | (go_at_call 10; refine (Parts.vld_any _ _).mono ?_; rintro e w' ⟨rfl, rfl⟩) | (go_at_call 9; refine (Parts.idx_any _ _ ?_ ?_ ?_ ?_ _).mono ?_; (iterate 4 assumption); rintro e w' ⟨rfl, rfl⟩) | (go_at_call 13; refine (Parts.code_any _ ?_ ?_ _).mono ?_; (iterate 2 assumption); rintro e w' ⟨rfl, rfl⟩))
    go_ret
    exact ⟨rfl, by repeat (first | exact Grown.refl _ | apply Grown.drew | apply Grown.alloc)⟩
  by_cases c1 : Parts.vldB a1 = true
  case neg =>
    have c1' : Parts.vldB a1 = false := by simpa using c1
    clear c1
    go_enter Try.func5, Try.ntmps5
    go_wp2_with (first | (go_at_call 11; refine (Parts.ld_any _ _).mono ?_; rintro e w' ⟨rfl, rfl⟩) | (go_at_call 10; refine (Parts.vld_any _ _).mono ?_; rintro e w' ⟨rfl, rfl⟩) | (go_at_call 9; refine (Parts.idx_any _ _ ?_ ?_ ?_ ?_ _).mono ?_; (iterate 4 assumption); rintro e w' ⟨rfl, rfl⟩) | (go_at_call 13; refine (Parts.code_any _ ?_ ?_ _).mono ?_; (iterate 2 assumption); rintro e w' ⟨rfl, rfl⟩))
    go_ret
    exact ⟨rfl, by repeat (first | exact Grown.refl _ | apply Grown.drew | apply Grown.alloc)⟩
  obtain ⟨e0, e1, b0, b1⟩ := Parts.code_ix a0 a1 c0 c1
  have f0 : (Parts.cl (Parts.ix a0 a1) == a0) = true := by simp [e0]
  have f1 : (Parts.ct (Parts.ix a0 a1) == a1) = true := by simp [e1]
  clear e0 e1
  go_enter Try.func5, Try.ntmps5
  go_wp2_with (first | (go_at_call 11; refine (Parts.ld_any _ _).mono ?_; rintro e w' ⟨rfl, rfl⟩) | (go_at_call 10; refine (Parts.vld_any _ _).mono ?_; rintro e w' ⟨rfl, rfl⟩) | (go_at_call 9; refine (Parts.idx_any _ _ ?_ ?_ ?_ ?_ _).mono ?_; (iterate 4 assumption); rintro e w' ⟨rfl, rfl⟩) | (go_at_call 13; refine (Parts.code_any _ ?_ ?_ _).mono ?_; (iterate 2 assumption); rintro e w' ⟨rfl, rfl⟩))
  go_ret
  exact ⟨rfl, by repeat (first | exact Grown.refl _ | apply Grown.drew | apply Grown.alloc)⟩

/-! ### THE ROW's STEP: WRITTEN OUT: LEAVE IT -/
set_option maxRecDepth 100000 in
theorem lifted (os : Os) (started : os.Started) (H : Type) (enc : TypeId × Value → H) :
    ReturnsInHanded {} Try.checked os 5 .any (Rows.fnTwoByteIndexThenCodeSpec.pre6 enc Try.prog Try.f5 Rows.fnTwoByteIndexThenCodeRow.domain false) (Rows.fnTwoByteIndexThenCodeSpec.post enc Try.prog Try.f5 false true false false) := by
  refine returnsInHanded_of_change (C := Try.checked) own started (by kernel_rfl) Try.func5
    (ChangeSpec.witness6 (enc := enc) (C := Try.checked) false ⟨#[], #[.int .u8 0, .int .u8 0], []⟩ 8 (by kernel_rfl) (by kernel_rfl) (by kernel_rfl) (by kernel_rfl)) ?_
  intro W base args ds gs before hval0 hW hcnd _
  have hval : ∀ (j : Nat) t v, Try.f5.params[j]? = some t → args[j]? = some v → Value.okWide Try.prog W .any base t v := hval0
  have hW' := hW
  obtain ⟨p, q, hA0, hV, rfl, hfz, hnd⟩ := hW
  have hA : DataW.TrodAll enc Try.prog W 0 (fun _ => true) true Try.f5.params.toList args.toList ds p := hA0
  rw [Try.params5] at hA hval
  obtain ⟨v0, vs0, d0, ds0, p0, q0, hargs, rfl, rfl, h0, r0⟩ := trodAll_cons hA
  obtain ⟨v1, vs1, d1, ds1, p1, q1, rfl, rfl, rfl, h1, r1⟩ := trodAll_cons r0
  obtain ⟨rfl, rfl, rfl⟩ := trodAll_nil r1
  obtain rfl : args = #[v0, v1] := by cases args; simp_all
  obtain ⟨rfl, rfl⟩ := trodVars_none hV
  obtain ⟨a0, rfl, rfl, rfl, w0⟩ := open_int Try.underlying5 (hval 0 5 v0 rfl rfl) h0
  obtain ⟨a1, rfl, rfl, rfl, w1⟩ := open_int Try.underlying5 (hval 1 5 v1 rfl rfl) h1
  clear hA0 hval0
  simp only [List.append_nil] at hW'
  refine (walk a0 a1 w0 w1 W).mono fun e W' ⟨he, hg⟩ => ?_
  subst he
  exact ⟨_, rfl, post_of_same (pa := []) (pv := []) hW' (fun _ _ _ => (trodAll_cons_mk (shut_bool Try.underlying4 _) trodAll_mk0)) (fun sp _ => (trodAll_cons_mk (shut_int Try.underlying5 w0) (trodAll_cons_mk (shut_int Try.underlying5 w1) trodAll_mk0))) (fun _ _ => rfl) rfl
    (hg.frame _) hg.2.1 (ok_one (by kernel_rfl) rfl (okWide_bool_mk Try.underlying4 _))⟩

theorem over : Rows.fnTwoByteIndexThenCodeRow.holds Try.pinned (OpenSpec.ofChange Rows.fnTwoByteIndexThenCodeSpec) :=
  OpenClaim.holds_of_wide 5 Try.f5 rfl rfl rfl rfl rfl rfl rfl ⟨rfl, rfl, rfl, rfl, rfl⟩ rfl rfl rfl rfl rfl (by kernel_rfl) Try.func5 (by kernel_rfl)
    (of_decide_eq_true (by kernel_rfl)) (by unfold Func.isWrapper; first | (rw [if_pos (by decide +kernel)]; kernel_rfl) | (rw [if_neg (by decide +kernel)]; exact ⟨rfl, rfl⟩))
    (fun os started H enc _ => lifted os started H enc)

/-- ████ THE STATEMENT ████ -/
theorem proved : Rows.FnTwoByteIndexThenCodeSaid :=
  over
end Go.Proofs.Qxb6600649a.fnTwoByteIndexThenCode

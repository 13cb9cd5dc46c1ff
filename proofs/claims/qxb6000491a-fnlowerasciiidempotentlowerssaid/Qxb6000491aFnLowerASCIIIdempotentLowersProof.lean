/-
  THE PROOF OF 'Rows.FnLowerASCIIIdempotentLowersSaid': the frame is the shell that the guide's tool wrote for this function; the walk is the seat's own.
-/
import Derived.Test.Qxb6000491aRows
import Derived.WalkKit
import Derived.ProofKit
import Derived.OpenShut
import Derived.ShutString
import Derived.WalkSmall
import Derived.Deep.QuietTactic
import Derived.BigQuiet
import Derived.Test.Qxb6000491aFold
namespace Go.Proofs.Qxb6000491a.fnLowerASCIIIdempotentLowers
open Go.ChangeShapes Go.WideShapes Go.ChangeAt Go.RowKit
open Go.ChangeMaps (open_string shut_string)
set_option linter.unusedVariables false      -- a walk need not use every 'w<i>' (that an integer argument fits its kind)

theorem own : ownKnob Try.prog.godebug = none := by kernel_rfl

/-! ### STEP 1: THE WALK: the Go text returns true. 'Below w.heap.size w w'': nothing that was there has turned (Derived/Below.lean; not the shell's own word: '[]byte(s)' lays a block that bears a mark). Part the cases AHEAD of 'go_enter' where a test parts the walk; take each callee by a contract of your own. -/
set_option maxHeartbeats 1000000 in
theorem walk (a0 : ByteArray) (w0 : a0.size ≤ maxLen) (w : World) :
    Calls Try.prog 3 #[.string a0] w fun e w' => e = .returned (.bool true) ∧ Below w.heap.size w w' := by
  by_cases h : a0.size ≤ 1048576
  case neg =>
    have h' : 1048576 < a0.size := by omega
    go_enter Try.func3, Try.ntmps3
    go_wp2_with (go_at_call 9; refine (Low.bytes9_no a0 h' _).mono ?_; rintro e w' ⟨rfl, rfl⟩)
    go_ret
    exact ⟨rfl, Below.refl _ _⟩
  obtain ⟨t, HT⟩ : ∃ t, Hid (t = Plain.low a0) := ⟨_, rfl⟩
  have HTT : Hid (t = Plain.low t) := by have e := HT.out; subst e; exact (Plain.low_low a0).symm
  have HZ : Hid (t.size = a0.size) := by have e := HT.out; subst e; exact Plain.size_low a0
  have hz : ((t.size : Int) != (a0.size : Int)) = false := by have e := HZ.out; simp [e]
  have hz1 : t.size ≤ a0.size := by have e := HZ.out; omega
  have hz2 : a0.size ≤ t.size := by have e := HZ.out; omega
  have ht : t.size ≤ maxLen := by unfold maxLen at *; omega
  go_enter Try.func3, Try.ntmps3
  go_wp2_with (first | (go_at_call 9; refine (Low.bytes9_yes a0 h _).mono ?_; rintro e w' ⟨rfl, rfl⟩) | (go_at_call 10; refine (Low.low_named a0 t HT.out w0 _).mono ?_; rintro e X1 ⟨rfl, hb1⟩))
  have HB : Hid (Below w.heap.size w X1) := hb1
  clear hb1
  go_loopw [4] (fun i wr => ∃ k : Nat, k ≤ t.size ∧ i = .int .i64 k ∧ Hid (Below w.heap.size w wr)) (fun i _ => t.size - (intOf i).toNat)
  case atStart => exact ⟨0, Nat.zero_le _, rfl, HB⟩
  case round =>
    obtain ⟨k, hk, rfl, HW⟩ := hrel
    by_cases hlt : k < t.size
    · have hlt0 : k < a0.size := by omega
      have hup : Plain.upB (t[k].toNat : Int) = false := Plain.up_named HT.out hlt
      by_cases hc : Plain.upB (a0[k].toNat : Int) = true
      · have hne : ((t[k].toNat : Int) != (a0[k].toNat : Int)) = true := Plain.ne_named HT.out hlt hlt0 hc
        have hor : ((t[k].toNat : Int) != bits BinOp.or IntKind.u8 (a0[k].toNat : Int) 32) = false := Fold.or_named HT.out hlt hlt0 hc
        go_wp2_with (go_at_call 11; refine (Low.up11 _ _).mono ?_; rintro e w' ⟨rfl, rfl⟩)
        go_quiet (fail)
        have HW2 : Hid (Below w.heap.size w (wr.drewN nq)) := below_drewN HW.out _
        generalize wr.drewN nq = wq at HW2 ⊢
        go_wp2
        go_quiet ((go_at_call 11; exact Calls.quiet_of_same (Low.up11q _ _)))
        go_wp2
        go_roundw
        case rel => exact ⟨k + 1, by omega, by go_num, below_drewN HW2.out _⟩
        case measure => simp [intOf]; omega
      · have hc' : Plain.upB (a0[k].toNat : Int) = false := by simpa using hc
        clear hc
        have hne : ((t[k].toNat : Int) != (a0[k].toNat : Int)) = false := Plain.eq_named HT.out hlt hlt0 hc'
        go_wp2_with (go_at_call 11; refine (Low.up11 _ _).mono ?_; rintro e w' ⟨rfl, rfl⟩)
        go_quiet (fail)
        go_wp2
        go_roundw
        case rel => exact ⟨k + 1, by omega, by go_num, below_drewN HW.out _⟩
        case measure => simp [intOf]; omega
    · have HS := HW.out.size
      go_wp2_with (go_at_call 10; refine (Low.low_named t t HTT.out ht _).mono ?_; rintro e X2 ⟨rfl, hb2⟩)
      go_ret
      exact ⟨rfl, HW.out.trans (hb2.mono HS)⟩

/-! ### THE ROW's STEP: WRITTEN OUT: LEAVE IT -/
set_option maxRecDepth 100000 in
theorem lifted (os : Os) (started : os.Started) (H : Type) (enc : TypeId × Value → H) :
    ReturnsInHanded {} Try.checked os 3 .any (Rows.fnLowerASCIIIdempotentLowersSpec.pre6 enc Try.prog Try.f3 Rows.fnLowerASCIIIdempotentLowersRow.domain false) (Rows.fnLowerASCIIIdempotentLowersSpec.post enc Try.prog Try.f3 false true false false) := by
  refine returnsInHanded_of_change (C := Try.checked) own started (by kernel_rfl) Try.func3
    (ChangeSpec.witness6 (enc := enc) (C := Try.checked) false ⟨#[], #[.string ByteArray.empty], []⟩ 8 (by kernel_rfl) (by kernel_rfl) (by kernel_rfl) (by kernel_rfl)) ?_
  intro W base args ds gs before hval0 hW hcnd _
  have hval : ∀ (j : Nat) t v, Try.f3.params[j]? = some t → args[j]? = some v → Value.okWide Try.prog W .any base t v := hval0
  have hW' := hW
  obtain ⟨p, q, hA0, hV, rfl, hfz, hnd⟩ := hW
  have hA : DataW.TrodAll enc Try.prog W 0 (fun _ => true) true Try.f3.params.toList args.toList ds p := hA0
  rw [Try.params3] at hA hval
  obtain ⟨v0, vs0, d0, ds0, p0, q0, hargs, rfl, rfl, h0, r0⟩ := trodAll_cons hA
  obtain ⟨rfl, rfl, rfl⟩ := trodAll_nil r0
  obtain rfl : args = #[v0] := by cases args; simp_all
  obtain ⟨rfl, rfl⟩ := trodVars_none hV
  obtain ⟨a0, rfl, rfl, rfl, w0⟩ := open_string Try.underlying9 (hval 0 9 v0 rfl rfl) h0
  clear hA0 hval0
  simp only [List.append_nil] at hW'
  refine (walk a0 w0 W).mono fun e W' ⟨he, hg⟩ => ?_
  subst he
  exact ⟨_, rfl, _, _, _, [], [], [], hW', (trodAll_cons_mk (shut_bool Try.underlying4 _) trodAll_mk0), (trodAll_cons_mk (shut_string Try.underlying9 w0) trodAll_mk0), rfl, hg.frame _, fun h => by cases h⟩

theorem over : Rows.fnLowerASCIIIdempotentLowersRow.holds Try.pinned (OpenSpec.ofChange Rows.fnLowerASCIIIdempotentLowersSpec) :=
  OpenClaim.holds_of_wide 3 Try.f3 rfl rfl rfl rfl rfl rfl rfl ⟨rfl, rfl, rfl, rfl, rfl⟩ rfl rfl rfl rfl rfl (by kernel_rfl) Try.func3 (by kernel_rfl)
    (of_decide_eq_true (by kernel_rfl)) (by unfold Func.isWrapper; first | (rw [if_pos (by decide +kernel)]; kernel_rfl) | (rw [if_neg (by decide +kernel)]; exact ⟨rfl, rfl⟩))
    (fun os started H enc _ => lifted os started H enc)

/-- ████ THE STATEMENT ████ -/
theorem proved : Rows.FnLowerASCIIIdempotentLowersSaid :=
  over
end Go.Proofs.Qxb6000491a.fnLowerASCIIIdempotentLowers

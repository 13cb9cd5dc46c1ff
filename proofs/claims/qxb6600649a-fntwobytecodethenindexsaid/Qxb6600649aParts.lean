/-
  THE SEAT's OWN TEXT: what each Go function on the six roads computes (plain functions), and its contract.
-/
import Derived.Test.Qxb6600649aRows
import Derived.WalkKit
import Derived.ProofKit
namespace Go.Proofs.Qxb6600649a.Parts
open Go.ChangeShapes Go.WideShapes Go.ChangeAt Go.RowKit

theorem ret_int {k : IntKind} {a b : Int} (h : a = b) : Ending.returned (.int k a) = .returned (.int k b) := by rw [h]
theorem ret_bool {a b : Bool} (h : a = b) : Ending.returned (.bool a) = .returned (.bool b) := by rw [h]
theorem ret_pair {k : IntKind} {a b : Int} {p q : Bool} (h : a = b) (g : p = q) : Ending.returned (.tuple #[.int k a, .bool p]) = .returned (.tuple #[.int k b, .bool q]) := by rw [h, g]

/-- validTrail. -/
def vldB (t : Int) : Bool := decide (64 ≤ t ∧ t ≤ 254 ∧ t ≠ 127)
/-- leadInRange. -/
def ldB (l : Int) : Bool := decide (129 ≤ l ∧ l ≤ 254)
/-- twoByteIndex, its first result. -/
def ix (l t : Int) : Int := if 64 ≤ t ∧ t ≤ 126 then (l - 129) % 256 * 190 + (t - 64) else if 128 ≤ t ∧ t ≤ 254 then (l - 129) % 256 * 190 + (t - 65) else 0
/-- trailsBelow. -/
def bl (t : Int) : Int := if t ≤ 64 then 0 else if t ≤ 127 then t - 64 else t - 65
/-- twoByteCode, first byte. -/
def cl (i : Int) : Int := i / 190 + 129
/-- twoByteCode, second byte. -/
def ct (i : Int) : Int := if 127 ≤ i % 190 + 64 then i % 190 + 64 + 1 else i % 190 + 64

theorem vld_any (t : Int) (w : World) : Calls Try.prog 10 #[.int .u8 t] w fun e w' => e = .returned (.bool (vldB t)) ∧ w' = w := by
  go_enter Try.func10, Try.ntmps10
  go_wp2
  all_goals go_ret
  all_goals exact ⟨ret_bool (by unfold vldB; rw [Bool.eq_iff_iff]; simp; try omega), rfl⟩

theorem ld_any (l : Int) (w : World) : Calls Try.prog 11 #[.int .u8 l] w fun e w' => e = .returned (.bool (ldB l)) ∧ w' = w := by
  go_enter Try.func11, Try.ntmps11
  go_wp2
  all_goals go_ret
  all_goals exact ⟨ret_bool (by unfold ldB; rw [Bool.eq_iff_iff]; simp; try omega), rfl⟩

theorem code_in (i : Int) (h0 : 0 ≤ i) (h1 : i < 23940) (w : World) :
    Calls Try.prog 16 #[.int .i64 i] w fun e w' => e = .returned (.slice (some ⟨w.heap.size, 0, none⟩) 2 2) ∧ w' = w.alloc (.cells #[.int .u8 (cl i), .int .u8 (ct i)] 5) := by
  by_cases h : 127 ≤ i % 190 + 64
  · have e1 : ct i = i % 190 + 64 + 1 := by unfold ct; rw [if_pos h]
    have e2 : cl i = i / 190 + 129 := rfl
    rw [e1, e2]
    clear e1 e2
    go_enter Try.func16, Try.ntmps16
    go_wp2
    go_ret
    exact ⟨rfl, rfl⟩
  · have e1 : ct i = i % 190 + 64 := by unfold ct; rw [if_neg h]
    have e2 : cl i = i / 190 + 129 := rfl
    rw [e1, e2]
    clear e1 e2
    go_enter Try.func16, Try.ntmps16
    go_wp2
    go_ret
    exact ⟨rfl, rfl⟩

theorem code_any (i : Int) (h0 : 0 ≤ i) (h1 : i < 23940) (w : World) :
    Calls Try.prog 13 #[.int .i64 i] w fun e w' => e = .returned (.slice (some ⟨w.heap.size, 0, none⟩) 2 2) ∧ w' = w.alloc (.cells #[.int .u8 (cl i), .int .u8 (ct i)] 5) := by
  go_enter Try.func13, Try.ntmps13
  go_wp2_with (go_at_call 16; refine (code_in _ h0 h1 _).mono ?_; rintro e w' ⟨rfl, rfl⟩)
  go_ret
  exact ⟨rfl, rfl⟩

theorem idx_in (l t : Int) (_h0 : 0 ≤ l) (_h1 : l ≤ 255) (h2 : 0 ≤ t) (h3 : t ≤ 255) (w : World) :
    Calls Try.prog 14 #[.int .u8 l, .int .u8 t] w fun e w' => e = .returned (.tuple #[.int .i64 (ix l t), .bool (vldB t)]) ∧ w' = w := by
  go_enter Try.func14, Try.ntmps14
  go_wp2
  all_goals go_ret2
  all_goals exact ⟨ret_pair (by unfold ix; simp (disch := omega) only [if_pos, if_neg]; try omega) (by unfold vldB; rw [Bool.eq_iff_iff]; simp; try omega), rfl⟩

theorem idx_any (l t : Int) (h0 : 0 ≤ l) (h1 : l ≤ 255) (h2 : 0 ≤ t) (h3 : t ≤ 255) (w : World) :
    Calls Try.prog 9 #[.int .u8 l, .int .u8 t] w fun e w' => e = .returned (.tuple #[.int .i64 (ix l t), .bool (vldB t)]) ∧ w' = w := by
  go_enter Try.func9, Try.ntmps9
  go_wp2_with (go_at_call 14; refine (idx_in _ _ h0 h1 h2 h3 _).mono ?_; rintro e w' ⟨rfl, rfl⟩)
  go_ret2
  exact ⟨rfl, rfl⟩
/-! ### The plain laws: no Go in sight -/
theorem cl_bd (i : Int) (h0 : 0 ≤ i) (h1 : i < 23940) : 129 ≤ cl i ∧ cl i ≤ 254 := by unfold cl; omega
theorem ct_bd (i : Int) : 64 ≤ ct i ∧ ct i ≤ 254 ∧ ct i ≠ 127 := by unfold ct; split <;> omega
theorem ordered (i j : Int) (h : i < j) : cl i < cl j ∨ (cl i = cl j ∧ ct i < ct j) := by
  unfold cl ct; split <;> split <;> omega
theorem ix_code (i : Int) (h0 : 0 ≤ i) (h1 : i < 23940) : ix (cl i) (ct i) = i := by
  unfold ix cl ct; split <;> split <;> (try split) <;> omega
theorem code_ix (l t : Int) (hl : ldB l = true) (ht : vldB t = true) : cl (ix l t) = l ∧ ct (ix l t) = t ∧ 0 ≤ ix l t ∧ ix l t < 23940 := by
  unfold ldB at hl; unfold vldB at ht
  have a := of_decide_eq_true hl
  have b := of_decide_eq_true ht
  have e : (l - 129) % 256 = l - 129 := by omega
  unfold ix cl ct
  rw [e]
  split
  · refine ⟨by omega, ?_, by omega, by omega⟩
    rw [if_neg (by omega)]; omega
  · rw [if_pos (by omega)]
    refine ⟨by omega, ?_, by omega, by omega⟩
    rw [if_pos (by omega)]; omega
theorem ix_ordered (l t m u : Int) (hl : ldB l = true) (ht : vldB t = true) (hm : ldB m = true) (hu : vldB u = true) (h : l < m ∨ (l = m ∧ t < u)) : 0 ≤ ix l t ∧ ix l t < ix m u ∧ ix m u < 23940 := by
  unfold ldB at hl hm; unfold vldB at ht hu
  have a := of_decide_eq_true hl
  have b := of_decide_eq_true ht
  have c := of_decide_eq_true hm
  have d := of_decide_eq_true hu
  have e : (l - 129) % 256 = l - 129 := by omega
  have f : (m - 129) % 256 = m - 129 := by omega
  unfold ix
  rw [e, f]
  split <;> split <;> (try split) <;> (try split) <;> omega
theorem ix_model (l t : Int) (hl : ldB l = true) (ht : vldB t = true) : ix l t = (l - 129) * 190 + bl t := by
  unfold ldB at hl; unfold vldB at ht
  have a := of_decide_eq_true hl
  have b := of_decide_eq_true ht
  have e : (l - 129) % 256 = l - 129 := by omega
  unfold ix bl
  rw [e]
  split
  · split
    · omega
    · rw [if_pos (by omega)]
  · rw [if_pos (by omega), if_neg (by omega), if_neg (by omega)]
theorem ix_no (l t : Int) (ht : vldB t = false) : ix l t = 0 := by
  unfold vldB at ht
  have b := of_decide_eq_false ht
  unfold ix
  rw [if_neg (by omega), if_neg (by omega)]
theorem vld_ct (i : Int) : vldB (ct i) = true := by unfold vldB; exact decide_eq_true (ct_bd i)
theorem ld_cl (i : Int) (h0 : 0 ≤ i) (h1 : i < 23940) : ldB (cl i) = true := by unfold ldB; exact decide_eq_true (cl_bd i h0 h1)
theorem model_code (i : Int) (h0 : 0 ≤ i) (h1 : i < 23940) : (cl i - 129) * 190 + bl (ct i) = i := by
  rw [← ix_model _ _ (ld_cl i h0 h1) (vld_ct i), ix_code i h0 h1]
theorem bl_bd (t : Int) (_h0 : 0 ≤ t) (_h1 : t ≤ 255) : 0 ≤ bl t ∧ bl t ≤ 190 := by unfold bl; split <;> (try split) <;> omega
theorem bl_yes (t : Int) (h : vldB t = true) : bl (t + 1) = bl t + 1 := by
  unfold vldB at h
  have b := of_decide_eq_true h
  unfold bl
  repeat' split
  all_goals omega
theorem bl_no (t : Int) (h : vldB t = false) (_h1 : t ≤ 254) : bl (t + 1) = bl t := by
  unfold vldB at h
  have b := of_decide_eq_false h
  unfold bl
  repeat' split
  all_goals omega
end Go.Proofs.Qxb6600649a.Parts

/-
  THE SEAT's OWN TEXT: zzFoldEqualASCII: the plain law on bytes, and its contract.
-/
import Derived.Test.Qxb6000491aLow
namespace Go.Proofs.Qxb6000491a.Fold
open Go.ChangeShapes Go.WideShapes Go.ChangeAt Go.RowKit
open Plain

/-! ### 'x | 0x20' on a byte, told by arithmetic -/
theorem or32_fin : ∀ x : Fin 256, bits BinOp.or IntKind.u8 (x.val : Int) 32 = if x.val % 64 < 32 then (x.val : Int) + 32 else (x.val : Int) := by decide +kernel
theorem or32 (x : UInt8) : bits BinOp.or IntKind.u8 (x.toNat : Int) 32 = if x.toNat % 64 < 32 then (x.toNat : Int) + 32 else (x.toNat : Int) := or32_fin ⟨x.toNat, x.toNat_lt⟩
theorem low_nat (x : UInt8) : (lowB x).toNat = if 65 ≤ x.toNat ∧ x.toNat ≤ 90 then x.toNat + 32 else x.toNat := by
  by_cases h : 65 ≤ x.toNat ∧ x.toNat ≤ 90
  · have g := lowB_up (b := x) (decide_eq_true (by omega))
    rw [if_pos h]
    omega
  · rw [if_neg h, lowB_no (decide_eq_false (by omega))]
theorem low_or (x : UInt8) (h : upB (x.toNat : Int) = true) : ((lowB x).toNat : Int) = bits BinOp.or IntKind.u8 (x.toNat : Int) 32 := by
  have g := of_decide_eq_true h
  rw [lowB_up h, or32, if_pos (by omega)]
/-- The lowered string under a name of its own: an upper-case byte has become 'x | 0x20'. -/
theorem or_named {s t : ByteArray} (h : t = low s) {k : Nat} (ht : k < t.size) (hs : k < s.size) (hu : upB (s[k].toNat : Int) = true) : ((t[k].toNat : Int) != bits BinOp.or IntKind.u8 (s[k].toNat : Int) 32) = false := by
  rw [at_named h ht hs, low_or _ hu]
  simp

theorem same_of (x y : UInt8) (h : ((x.toNat : Int) == (y.toNat : Int)) = true) : lowB x = lowB y := by
  have e : x.toNat = y.toNat := by have := eq_of_beq h; omega
  rw [UInt8.toNat_inj.1 e]
theorem differ_or (x y : UInt8) (h : (bits BinOp.or IntKind.u8 (x.toNat : Int) 32 != bits BinOp.or IntKind.u8 (y.toNat : Int) 32) = true) : lowB x ≠ lowB y := by
  intro e
  have e1 : (lowB x).toNat = (lowB y).toNat := by rw [e]
  rw [low_nat, low_nat] at e1
  rw [or32, or32] at h
  have h' := bne_iff_ne.1 h
  apply h'
  clear h h' e
  repeat' split at e1
  all_goals repeat' split
  all_goals omega
theorem differ_out (x y : UInt8) (h0 : ((x.toNat : Int) == (y.toNat : Int)) = false) (h : (bits BinOp.or IntKind.u8 (x.toNat : Int) 32 != bits BinOp.or IntKind.u8 (y.toNat : Int) 32) = false)
    (g : bits BinOp.or IntKind.u8 (x.toNat : Int) 32 < 97 ∨ 122 < bits BinOp.or IntKind.u8 (x.toNat : Int) 32) : lowB x ≠ lowB y := by
  intro e
  have e1 : (lowB x).toNat = (lowB y).toNat := by rw [e]
  have h0' : (x.toNat : Int) ≠ (y.toNat : Int) := by simpa using h0
  have h' : bits BinOp.or IntKind.u8 (x.toNat : Int) 32 = bits BinOp.or IntKind.u8 (y.toNat : Int) 32 := by simpa using h
  rw [low_nat, low_nat] at e1
  rw [or32, or32] at h'
  rw [or32] at g
  clear h h0 e
  repeat' split at e1
  all_goals repeat' split at h'
  all_goals first | omega | (split at g <;> omega)
theorem same_in (x y : UInt8) (h : (bits BinOp.or IntKind.u8 (x.toNat : Int) 32 != bits BinOp.or IntKind.u8 (y.toNat : Int) 32) = false)
    (g : 97 ≤ bits BinOp.or IntKind.u8 (x.toNat : Int) 32 ∧ bits BinOp.or IntKind.u8 (x.toNat : Int) 32 ≤ 122) : lowB x = lowB y := by
  apply UInt8.toNat_inj.1
  have h' : bits BinOp.or IntKind.u8 (x.toNat : Int) 32 = bits BinOp.or IntKind.u8 (y.toNat : Int) 32 := by simpa using h
  rw [low_nat, low_nat]
  rw [or32, or32] at h'
  rw [or32] at g
  clear h
  repeat' split at h'
  all_goals repeat' split
  all_goals first | omega | (split at g <;> omega)

/-! ### Two strings -/
/-- The first k bytes lower alike. -/
def Agree (a b : ByteArray) (k : Nat) : Prop := ∀ j (hj : j < a.size) (hj' : j < b.size), j < k → lowB a[j] = lowB b[j]
/-- They lower to one string. -/
def eqB (a b : ByteArray) : Bool := decide (low a = low b)

theorem agree_zero (a b : ByteArray) : Agree a b 0 := fun _ _ _ h => absurd h (Nat.not_lt_zero _)
theorem agree_succ {a b : ByteArray} {k : Nat} (h : Agree a b k) (ha : k < a.size) (hb : k < b.size) (e : lowB a[k] = lowB b[k]) : Agree a b (k + 1) := by
  intro j hj hj' hlt
  by_cases g : j = k
  · subst g; exact e
  · exact h j hj hj' (by omega)
theorem eq_all {a b : ByteArray} (hs : a.size = b.size) (h : Agree a b a.size) : eqB a b = true := by
  apply decide_eq_true
  apply ByteArray.ext
  show a.data.map lowB = b.data.map lowB
  have hs' : a.data.size = b.data.size := hs
  apply Array.ext
  · simp [hs']
  · intro i h1 h2
    have i1 : i < a.size := by simpa using h1
    have i2 : i < b.size := by simpa using h2
    simp only [Array.getElem_map]
    exact h i i1 i2 i1
theorem eq_not {a b : ByteArray} {k : Nat} (ha : k < a.size) (hb : k < b.size) (e : lowB a[k] ≠ lowB b[k]) : eqB a b = false := by
  apply decide_eq_false
  intro h
  apply e
  have h1 := get_low a k ha
  have h2 := get_low b k hb
  rw [← h1, ← h2]
  congr 1
theorem eq_size {a b : ByteArray} (h : a.size ≠ b.size) : eqB a b = false := by
  apply decide_eq_false
  intro e
  apply h
  rw [← size_low a, ← size_low b, e]
/-- Go's '==' on the two lowered strings, as the walk spells it. -/
theorem beq_low (a b : ByteArray) : ((low a).toList == (low b).toList) = eqB a b := by
  rw [Bool.eq_iff_iff]
  unfold eqB
  rw [decide_eq_true_iff, beq_iff_eq, ByteArray.toList_eq, ByteArray.toList_eq]
  constructor
  · intro h
    exact ByteArray.ext (Array.toList_inj.1 h)
  · intro h
    rw [h]

set_option maxHeartbeats 400000 in
theorem fold_size (a b : ByteArray) (h : ((a.size : Int) != (b.size : Int)) = true) (w : World) :
    Calls Try.prog 13 #[.string a, .string b] w fun e w' => e = .returned (.bool (eqB a b)) ∧ w = w' := by
  have hn : eqB a b = false := eq_size (by have := bne_iff_ne.1 h; omega)
  go_enter Try.func13, Try.ntmps13
  go_wp2
  go_ret
  exact ⟨Low.ret_bool hn.symm, rfl⟩

set_option maxHeartbeats 1000000 in
theorem fold_loop (a b : ByteArray) (ha : a.size ≤ maxLen) (h : ((a.size : Int) != (b.size : Int)) = false) (w : World) :
    Calls Try.prog 13 #[.string a, .string b] w fun e w' => e = .returned (.bool (eqB a b)) ∧ w = w' := by
  unfold maxLen at ha
  have hs : a.size = b.size := by have : (a.size : Int) = (b.size : Int) := by simpa using h
                                  omega
  have hs1 : a.size ≤ b.size := by omega
  have HS : Hid (a.size = b.size) := hs
  clear hs
  go_enter Try.func13, Try.ntmps13
  go_wp2
  go_loop [5] (fun i => ∃ k : Nat, k ≤ a.size ∧ i = .int .i64 k ∧ Hid (Agree a b k)) (fun i => a.size - (intOf i).toNat)
  case atStart => exact ⟨0, Nat.zero_le _, rfl, agree_zero a b⟩
  case round =>
    obtain ⟨k, hk, rfl, H⟩ := hrel
    by_cases hlt : k < a.size
    · have hltb : k < b.size := by omega
      go_wp2
      all_goals first
        | (go_round; (case rel => exact ⟨k + 1, by omega, by go_num, agree_succ H.out hlt hltb (same_of _ _ ‹_›)⟩); (case measure => simp [intOf]; omega))
        | (go_round; (case rel => exact ⟨k + 1, by omega, by go_num, agree_succ H.out hlt hltb (same_in _ _ ‹_› ‹_›)⟩); (case measure => simp [intOf]; omega))
        | (go_ret; exact ⟨Low.ret_bool (eq_not hlt hltb (differ_or _ _ ‹_›)).symm, rfl⟩)
        | (go_ret; exact ⟨Low.ret_bool (eq_not hlt hltb (differ_out _ _ ‹_› ‹_› ‹_›)).symm, rfl⟩)
        | (go_ret; exact ⟨Low.ret_bool (eq_not hlt hltb (differ_out _ _ ‹_› ‹_› (Or.inl ‹_›))).symm, rfl⟩)
    · have hk' : k = a.size := by omega
      subst hk'
      have hy : eqB a b = true := eq_all HS.out H.out
      go_wp2
      go_ret
      exact ⟨rfl, rfl⟩

theorem fold_any (a b : ByteArray) (ha : a.size ≤ maxLen) (w : World) :
    Calls Try.prog 13 #[.string a, .string b] w fun e w' => e = .returned (.bool (eqB a b)) ∧ w = w' := by
  by_cases h : ((a.size : Int) != (b.size : Int)) = true
  · exact fold_size a b h w
  · exact fold_loop a b ha (by simpa using h) w
end Go.Proofs.Qxb6000491a.Fold

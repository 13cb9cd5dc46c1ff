/-
  THE SEAT's OWN TEXT: the plain mathematics of lowerASCII: no Go in sight.
-/
import Derived.Test.Qxb6000491aRows
namespace Go.Proofs.Qxb6000491a.Plain

/-- isUpperASCII, zzIsUpper, of the byte's number. -/
def upB (n : Int) : Bool := decide (65 ≤ n ∧ n ≤ 90)
/-- One byte lowered. -/
def lowB (b : UInt8) : UInt8 := if 65 ≤ b.toNat ∧ b.toNat ≤ 90 then b + 32 else b
/-- lowerASCII. -/
def low (s : ByteArray) : ByteArray := ⟨s.data.map lowB⟩

theorem lowB_up {b : UInt8} (h : upB b.toNat = true) : ((lowB b).toNat : Int) = (b.toNat : Int) + 32 := by
  unfold upB at h
  have g := of_decide_eq_true h
  unfold lowB
  rw [if_pos (by omega), UInt8.toNat_add]
  have : (32 : UInt8).toNat = 32 := rfl
  omega
theorem lowB_no {b : UInt8} (h : upB b.toNat = false) : lowB b = b := by
  unfold upB at h
  have g := of_decide_eq_false h
  unfold lowB
  rw [if_neg (by omega)]
theorem up_lowB (b : UInt8) : upB (lowB b).toNat = false := by
  by_cases h : upB b.toNat = true
  · have g := of_decide_eq_true h
    rw [lowB_up h]
    exact decide_eq_false (by omega)
  · have h' : upB b.toNat = false := by simpa using h
    rw [lowB_no h']
    exact h'
theorem lowB_lowB (b : UInt8) : lowB (lowB b) = lowB b := lowB_no (up_lowB b)

theorem size_low (s : ByteArray) : (low s).size = s.size := by
  show (s.data.map lowB).size = s.data.size
  simp
theorem get_low (s : ByteArray) (j : Nat) (h : j < s.size) : (low s)[j]'(by rw [size_low]; exact h) = lowB s[j] := by
  show (s.data.map lowB)[j]'(by simpa using h) = lowB s.data[j]
  simp
theorem low_low (s : ByteArray) : low (low s) = low s := by
  show (⟨(s.data.map lowB).map lowB⟩ : ByteArray) = ⟨s.data.map lowB⟩
  rw [Array.map_map]
  congr 1
  apply Array.map_congr_left
  intro a _
  exact lowB_lowB a
/-- Nothing to lower. -/
theorem low_same (s : ByteArray) (h : ∀ j (hj : j < s.size), upB (s[j].toNat : Int) = false) : low s = s := by
  apply ByteArray.ext
  show s.data.map lowB = s.data
  apply Array.ext
  · simp
  · intro i h1 h2
    simp only [Array.getElem_map]
    exact lowB_no (h i h2)

/-! ### The lowered string under a name of its own -/
theorem at_named {s t : ByteArray} (h : t = low s) {k : Nat} (ht : k < t.size) (hs : k < s.size) : t[k] = lowB s[k] := by
  subst h
  exact get_low s k hs
theorem up_named {s t : ByteArray} (h : t = low s) {k : Nat} (ht : k < t.size) : upB (t[k].toNat : Int) = false := by
  have hs : k < s.size := by rw [h, size_low] at ht; exact ht
  rw [at_named h ht hs]
  exact up_lowB _
theorem ne_named {s t : ByteArray} (h : t = low s) {k : Nat} (ht : k < t.size) (hs : k < s.size) (hu : upB (s[k].toNat : Int) = true) : ((t[k].toNat : Int) != (s[k].toNat : Int)) = true := by
  rw [at_named h ht hs, lowB_up hu]
  apply bne_iff_ne.2
  omega
theorem eq_named {s t : ByteArray} (h : t = low s) {k : Nat} (ht : k < t.size) (hs : k < s.size) (hu : upB (s[k].toNat : Int) = false) : ((t[k].toNat : Int) != (s[k].toNat : Int)) = false := by
  rw [at_named h ht hs, lowB_no hu]
  simp
end Go.Proofs.Qxb6000491a.Plain

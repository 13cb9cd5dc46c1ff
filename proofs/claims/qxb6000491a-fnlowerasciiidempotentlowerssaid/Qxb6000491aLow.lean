/-
  THE SEAT's OWN TEXT: the contracts of isUpperASCII, zzIsUpper, lowerASCII, ZZLowerASCII, and of the two bounds zzBytes_...
-/
import Derived.Test.Qxb6000491aPlain
import Derived.WalkKit
import Derived.ProofKit
import Derived.OpenShut
import Derived.Laws.IdiomStrings
namespace Go.Proofs.Qxb6000491a.Low
open Go.ChangeShapes Go.WideShapes Go.ChangeAt Go.RowKit
open Plain

theorem ret_bool {a b : Bool} (h : a = b) : Ending.returned (.bool a) = .returned (.bool b) := by rw [h]
theorem ret_str {a b : ByteArray} (h : a = b) : Ending.returned (.string a) = .returned (.string b) := by rw [h]

theorem up30 (c : Int) (w : World) : Calls Try.prog 30 #[.int .u8 c] w fun e w' => e = .returned (.bool (upB c)) ∧ w = w' := by
  go_enter Try.func30, Try.ntmps30
  go_wp2
  all_goals go_ret
  all_goals exact ⟨ret_bool (by unfold upB; rw [Bool.eq_iff_iff]; simp; try omega), rfl⟩

theorem up11 (c : Int) (w : World) : Calls Try.prog 11 #[.int .u8 c] w fun e w' => e = .returned (.bool (upB c)) ∧ w = w' := by
  go_enter Try.func11, Try.ntmps11
  go_wp2
  all_goals go_ret
  all_goals exact ⟨ret_bool (by unfold upB; rw [Bool.eq_iff_iff]; simp; try omega), rfl⟩

/-- '[]byte(s)': what the rest of the walk wants of it. -/
theorem conv (w : World) (s : ByteArray) : ∃ (cap : Nat) (W1 : World), (convert 9 52 (.string s)).run Try.prog w = .ok (.slice (some ⟨w.heap.size, 0, none⟩) s.size cap) W1 ∧
    (∀ j (hj : j < s.size), W1.cell? ⟨w.heap.size, j, none⟩ = some (.int .u8 (s[j].toNat : Int))) ∧ (∀ j, j < s.size → W1.frozen? ⟨w.heap.size, j, none⟩ = false) ∧ Below w.heap.size w W1 := by
  refine ⟨_, _, run_bytes_of_string w 9 52 5 s Try.underlying9 Try.underlying52 Try.underlying5, ?_, ?_, ?_⟩
  · intro j hj
    show (w.drew.alloc _).cell? ⟨w.drew.heap.size, j, none⟩ = _
    rw [World.cell?_alloc_mark, bytesRow_at s _ j hj]
    rfl
  · intro j hj
    show (w.drew.alloc _).frozen? ⟨w.drew.heap.size, j, none⟩ = _
    rw [World.frozen?_alloc_mark]
    have hl : s.size ≤ (bytesRow s (grownCap w s.size 0 5)).size := by
      have : s.data.size = s.size := rfl
      simp [bytesRow]
    rw [decide_eq_false (by omega)]
    rfl
  · exact (Below.refl _ _).drew.alloc (Nat.le_refl _) _

/-- 'string(b)', b's cells the lowered bytes. -/
theorem back (wr : World) (b cap : Nat) (s : ByteArray) (h : ∀ j (hj : j < s.size), wr.cell? ⟨b, j, none⟩ = some (.int .u8 ((lowB s[j]).toNat : Int))) :
    (convert 52 9 (.slice (some ⟨b, 0, none⟩) s.size cap)).run Try.prog wr = .ok (.string (low s)) wr := by
  have g := run_convert_bytes_back (P := Try.prog) wr 52 9 5 ⟨b, 0, none⟩ cap (low s).data.toList Try.underlying52 Try.underlying5 Try.underlying9 (fun j hj => by
    have hj' : j < s.size := by simpa [low] using hj
    have e : (⟨b, 0, none⟩ : Addr).add j = ⟨b, j, none⟩ := by rw [add_plain, Nat.zero_add]
    rw [e, h j hj']
    have e2 : (low s).data.toList[j] = lowB s[j] := by
      simp only [Array.getElem_toList]
      exact get_low s j hj'
    rw [e2])
  have e3 : (low s).data.toList.length = s.size := by
    have := size_low s
    have e4 : (low s).data.size = (low s).size := rfl
    simp
    omega
  rw [e3] at g
  rw [g]

theorem upto_succ {s : ByteArray} {k : Nat} (h : ∀ j (hj : j < s.size), j < k → upB (s[j].toNat : Int) = false) (hk : k < s.size) (hu : upB (s[k].toNat : Int) = false) :
    ∀ j (hj : j < s.size), j < k + 1 → upB (s[j].toNat : Int) = false := by
  intro j hj hlt
  by_cases e : j = k
  · subst e; exact hu
  · exact h j hj (by omega)

/-- Byte j behind m rounds of the second loop. -/
def mid (s : ByteArray) (m j : Nat) (hj : j < s.size) : UInt8 := if j < m then lowB s[j] else s[j]
/-- The cells of block b are the string's bytes, the first m lowered. -/
def Mid (s : ByteArray) (b m : Nat) (wr : World) : Prop := ∀ j (hj : j < s.size), wr.cell? ⟨b, j, none⟩ = some (.int .u8 ((mid s m j hj).toNat : Int))
/-- None of them is frozen. -/
def Free (s : ByteArray) (b : Nat) (wr : World) : Prop := ∀ j, j < s.size → wr.frozen? ⟨b, j, none⟩ = false

theorem mid_start {s : ByteArray} {b k : Nat} {W1 : World} (hc : ∀ j (hj : j < s.size), W1.cell? ⟨b, j, none⟩ = some (.int .u8 (s[j].toNat : Int))) (H : ∀ j (hj : j < s.size), j < k → upB (s[j].toNat : Int) = false) : Mid s b k W1 := by
  intro j hj
  rw [hc j hj]
  unfold mid
  split
  · rw [lowB_no (H j hj ‹_›)]
  · rfl
theorem mid_at {s : ByteArray} {b m : Nat} {wr : World} (h : Mid s b m wr) (hm : m < s.size) : wr.cell? ⟨b, m, none⟩ = some (.int .u8 (s[m].toNat : Int)) := by
  rw [h m hm]
  unfold mid
  rw [if_neg (by omega)]
theorem mid_no {s : ByteArray} {b m : Nat} {wr : World} (h : Mid s b m wr) (hm : m < s.size) (hu : upB (s[m].toNat : Int) = false) : Mid s b (m + 1) wr := by
  intro j hj
  rw [h j hj]
  unfold mid
  by_cases e : j = m
  · subst e
    rw [if_neg (by omega), if_pos (by omega), lowB_no hu]
  · by_cases g : j < m
    · rw [if_pos g, if_pos (by omega)]
    · rw [if_neg g, if_neg (by omega)]
theorem mid_up {s : ByteArray} {b m : Nat} {wr : World} {c : Int} (h : Mid s b m wr) (hm : m < s.size) (hc : c = (s[m].toNat : Int)) (hu : upB (s[m].toNat : Int) = true) : Mid s b (m + 1) (wr.setCell ⟨b, m, none⟩ (.int .u8 (c + 32))) := by
  intro j hj
  by_cases e : j = m
  · subst e
    rw [World.cell?_setCell_same _ _ _ (mid_at h hm)]
    unfold mid
    rw [if_pos (by omega), lowB_up hu, hc]
  · rw [World.cell?_setCell_other _ _ _ _ (by simp), h j hj]
    unfold mid
    by_cases g : j < m
    · rw [if_pos g, if_pos (by omega)]
    · rw [if_neg g, if_neg (by omega)]
theorem mid_end {s : ByteArray} {b : Nat} {wr : World} (cap : Nat) (h : Mid s b s.size wr) : (convert 52 9 (.slice (some ⟨b, 0, none⟩) s.size cap)).run Try.prog wr = .ok (.string (low s)) wr := by
  apply back
  intro j hj
  rw [h j hj]
  unfold mid
  rw [if_pos hj]
theorem free_up {s : ByteArray} {b m : Nat} {wr : World} (v : Value) (h : Free s b wr) : Free s b (wr.setCell ⟨b, m, none⟩ v) := fun j hj => (World.frozen?_setCell _ _ _ _).trans (h j hj)

set_option maxHeartbeats 1000000 in
theorem low_any (s : ByteArray) (hs : s.size ≤ maxLen) (w : World) :
    Calls Try.prog 26 #[.string s] w fun e w' => e = .returned (.string (low s)) ∧ Below w.heap.size w w' := by
  unfold maxLen at hs
  obtain ⟨cap, W1, hconv, HC, HF, HB⟩ : ∃ (cap : Nat) (W1 : World), (convert 9 52 (.string s)).run Try.prog w = .ok (.slice (some ⟨w.heap.size, 0, none⟩) s.size cap) W1 ∧
    Hid (∀ j (hj : j < s.size), W1.cell? ⟨w.heap.size, j, none⟩ = some (.int .u8 (s[j].toNat : Int))) ∧ Hid (∀ j, j < s.size → W1.frozen? ⟨w.heap.size, j, none⟩ = false) ∧ Hid (Below w.heap.size w W1) := conv w s
  go_enter Try.func26, Try.ntmps26
  go_wp2
  go_loop [3] (fun i => ∃ k : Nat, k ≤ s.size ∧ i = .int .i64 k ∧ Hid (∀ j (hj : j < s.size), j < k → upB (s[j].toNat : Int) = false)) (fun i => s.size - (intOf i).toNat)
  case atStart => exact ⟨0, Nat.zero_le _, rfl, fun j hj h => absurd h (Nat.not_lt_zero _)⟩
  case round =>
    obtain ⟨k, hk, rfl, H⟩ := hrel
    by_cases hlt : k < s.size
    · by_cases hu : upB (s[k].toNat : Int) = true
      · have hkk : ((k : Int) == (s.size : Int)) = false := by simp; omega
        go_wp2_with (go_at_call 30; refine (up30 _ _).mono ?_; rintro e w' ⟨rfl, rfl⟩)
        clear hconv
        go_loopw [3] (fun i wr => ∃ m : Nat, m ≤ s.size ∧ i = .int .i64 m ∧ Hid (Mid s w.heap.size m wr) ∧ Hid (Free s w.heap.size wr) ∧ Hid (Below w.heap.size w wr)) (fun i _ => s.size - (intOf i).toNat)
        case atStart => exact ⟨k, hk, rfl, mid_start HC.out H.out, HF, HB⟩
        case round =>
          obtain ⟨m, hm, rfl, HM, HR, HW⟩ := hrel
          by_cases hmt : m < s.size
          · have hc := mid_at HM.out hmt
            have hf := HR.out m hmt
            have hbd : 0 ≤ (s[m].toNat : Int) ∧ (s[m].toNat : Int) ≤ 255 := by have := s[m].toNat_lt; omega
            by_cases hv : upB (s[m].toNat : Int) = true
            · obtain ⟨c, hcc⟩ : ∃ c : Int, c = (s[m].toNat : Int) := ⟨_, rfl⟩
              have hb : 65 ≤ c ∧ c ≤ 90 := by unfold upB at hv; have := of_decide_eq_true hv; omega
              rw [← hcc] at hc
              have hv' : upB c = true := by rw [hcc]; exact hv
              have HV : Hid (upB (s[m].toNat : Int) = true) := hv
              have HCC : Hid (c = (s[m].toNat : Int)) := hcc
              obtain ⟨hb1, hb2⟩ := hb
              clear hv hcc hbd
              go_wp2_with (go_at_call 30; refine (up30 _ _).mono ?_; rintro e w' ⟨rfl, rfl⟩)
              go_roundw
              case rel => exact ⟨m + 1, by omega, by go_num, mid_up HM.out hmt HCC.out HV.out, free_up _ HR.out, HW.out.setCell (Nat.le_refl _) _⟩
              case measure => simp [intOf]; omega
            · obtain ⟨c, hcc⟩ : ∃ c : Int, c = (s[m].toNat : Int) := ⟨_, rfl⟩
              have hv' : upB c = false := by rw [hcc]; simpa using hv
              have HV : Hid (upB (s[m].toNat : Int) = false) := by rw [← hcc]; exact hv'
              rw [← hcc] at hc
              clear hv hcc hbd
              go_wp2_with (go_at_call 30; refine (up30 _ _).mono ?_; rintro e w' ⟨rfl, rfl⟩)
              go_roundw
              case rel => exact ⟨m + 1, by omega, by go_num, mid_no HM.out hmt HV.out, HR, HW⟩
              case measure => simp [intOf]; omega
          · have hk' : m = s.size := by omega
            subst hk'
            have hback := mid_end cap HM.out
            go_wp2
            go_ret
            exact ⟨rfl, HW.out⟩
      · have hu' : upB (s[k].toNat : Int) = false := by simpa using hu
        clear hu
        go_wp2_with (go_at_call 30; refine (up30 _ _).mono ?_; rintro e w' ⟨rfl, rfl⟩)
        go_round
        case rel => exact ⟨k + 1, by omega, by go_num, upto_succ H.out hlt hu'⟩
        case measure => simp [intOf]; omega
    · have hk' : k = s.size := by omega
      subst hk'
      have HL : Hid (low s = s) := low_same s (fun j hj => H.out j hj hj)
      go_wp2
      go_ret
      exact ⟨ret_str HL.out.symm, Below.refl _ _⟩

theorem low10 (s : ByteArray) (hs : s.size ≤ maxLen) (w : World) :
    Calls Try.prog 10 #[.string s] w fun e w' => e = .returned (.string (low s)) ∧ Below w.heap.size w w' := by
  go_enter Try.func10, Try.ntmps10
  go_wp2_with (go_at_call 26; refine (low_any _ hs _).mono ?_; rintro e w' ⟨rfl, hb⟩)
  go_ret
  exact ⟨rfl, by assumption⟩

/-- The lowered string under a name of its own. -/
theorem low_named (s t : ByteArray) (ht : t = low s) (hs : s.size ≤ maxLen) (w : World) :
    Calls Try.prog 10 #[.string s] w fun e w' => e = .returned (.string t) ∧ Below w.heap.size w w' := by
  rw [ht]
  exact low10 s hs w
/-- zzIsUpper inside a region that draws. -/
theorem up11q (c : Int) (w : World) : Calls Try.prog 11 #[.int .u8 c] w fun e w' => e = .returned (.bool (upB c)) ∧ w' = w :=
  (up11 c w).mono fun _ _ ⟨h, g⟩ => ⟨h, g.symm⟩

theorem bytes9_yes (s : ByteArray) (h : s.size ≤ 1048576) (w : World) : Calls Try.prog 9 #[.string s] w fun e w' => e = .returned (.bool true) ∧ w = w' := by
  go_enter Try.func9, Try.ntmps9
  go_wp2
  go_ret
  exact ⟨rfl, rfl⟩
theorem bytes9_no (s : ByteArray) (h : 1048576 < s.size) (w : World) : Calls Try.prog 9 #[.string s] w fun e w' => e = .returned (.bool false) ∧ w = w' := by
  go_enter Try.func9, Try.ntmps9
  go_wp2
  go_ret
  exact ⟨rfl, rfl⟩
theorem bytes12_yes (a b : ByteArray) (h : a.size + b.size ≤ 1048576) (w : World) : Calls Try.prog 12 #[.string a, .string b] w fun e w' => e = .returned (.bool true) ∧ w = w' := by
  have ha : a.size ≤ 1048576 := by omega
  have hb : b.size ≤ 1048576 := by omega
  go_enter Try.func12, Try.ntmps12
  go_wp2
  go_ret
  exact ⟨rfl, rfl⟩
theorem bytes12_no (a b : ByteArray) (h : 1048576 < a.size + b.size) (w : World) : Calls Try.prog 12 #[.string a, .string b] w fun e w' => e = .returned (.bool false) ∧ w = w' := by
  by_cases ha : a.size ≤ 1048576
  · by_cases hb : b.size ≤ 1048576
    · go_enter Try.func12, Try.ntmps12
      go_wp2
      go_ret
      exact ⟨rfl, rfl⟩
    · go_enter Try.func12, Try.ntmps12
      go_wp2
      go_ret
      exact ⟨rfl, rfl⟩
  · go_enter Try.func12, Try.ntmps12
    go_wp2
    go_ret
    exact ⟨rfl, rfl⟩
end Go.Proofs.Qxb6000491a.Low

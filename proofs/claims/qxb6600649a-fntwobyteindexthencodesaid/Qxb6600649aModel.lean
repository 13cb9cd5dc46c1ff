/-
  THE SEAT's OWN TEXT: the contracts of trailsBelow (a loop) and modelIndex.
-/
import Derived.Test.Qxb6600649aParts
namespace Go.Proofs.Qxb6600649a.Model
open Go.ChangeShapes Go.WideShapes Go.ChangeAt Go.RowKit
open Parts

theorem below_any (t : Int) (h0 : 0 ≤ t) (h1 : t ≤ 255) (w : World) :
    Calls Try.prog 15 #[.int .u8 t] w fun e w' => e = .returned (.int .i64 (bl t)) ∧ w' = w := by
  go_enter Try.func15, Try.ntmps15
  go_wp2
  go_loop [3, 4] (fun n v => ∃ k : Int, 0 ≤ k ∧ k ≤ t ∧ v = .int .i64 k ∧ n = .int .i64 (bl k)) (fun _ v => (t - intOf v).toNat)
  case atStart => exact ⟨0, by omega, by omega, rfl, rfl⟩
  case round =>
    obtain ⟨k, hk0, hk1, rfl, rfl⟩ := hrel
    have hb := bl_bd k hk0 (by omega)
    by_cases hlt : k < t
    · by_cases hv : vldB k = true
      · have HB : Hid (bl (k + 1) = bl k + 1) := bl_yes k hv
        go_wp2_with (go_at_call 10; refine (vld_any _ _).mono ?_; rintro e w' ⟨rfl, rfl⟩)
        go_round
        case rel => exact ⟨k + 1, by omega, by omega, rfl, by rw [HB.out]⟩
        case measure => simp [intOf]; omega
      · have hv' : vldB k = false := by simpa using hv
        clear hv
        have HB : Hid (bl (k + 1) = bl k) := bl_no k hv' (by omega)
        go_wp2_with (go_at_call 10; refine (vld_any _ _).mono ?_; rintro e w' ⟨rfl, rfl⟩)
        go_round
        case rel => exact ⟨k + 1, by omega, by omega, rfl, by rw [HB.out]⟩
        case measure => simp [intOf]; omega
    · have hkt : k = t := by omega
      subst hkt
      go_wp2
      go_ret
      exact ⟨rfl, rfl⟩

theorem model_any (l t : Int) (h0 : 0 ≤ l) (h1 : l ≤ 255) (h2 : 0 ≤ t) (h3 : t ≤ 255) (w : World) :
    Calls Try.prog 12 #[.int .u8 l, .int .u8 t] w fun e w' => e = .returned (.int .i64 ((l - 129) * 190 + bl t)) ∧ w' = w := by
  have hb := bl_bd t h2 h3
  go_enter Try.func12, Try.ntmps12
  go_wp2_with (go_at_call 15; refine (below_any _ h2 h3 _).mono ?_; rintro e w' ⟨rfl, rfl⟩)
  go_ret
  exact ⟨rfl, rfl⟩
end Go.Proofs.Qxb6600649a.Model

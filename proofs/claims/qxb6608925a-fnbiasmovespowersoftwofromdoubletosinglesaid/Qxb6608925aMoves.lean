/- The walk of FnBiasMovesPowersOfTwoFromDoubleToSingle. -/
import Derived.Test.Qxb6608925aBias
import Derived.Test.Qxb6608925aNar
namespace Go.Proofs.Qxb6608925a
open Go.RowKit
set_option linter.unusedVariables false
theorem zznar_yes {s e fr b x : Int} (h : Is64 s e fr b) (hn : nar s e fr = some x) (w : World) :
    Calls Try.prog 9 #[.int .u64 b] w fun v w' => v = .returned (.tuple #[.int .u32 x, .bool true]) ∧ w' = w := by
  have c := zznar_any h w
  rw [hn] at c
  exact c
theorem bz_11 : bz 11 = 1023 := by decide
theorem bz_8 : bz 8 = 127 := by decide
theorem pow_is64 (u : Int) (h1 : -126 ≤ u) (h2 : u ≤ 127) : Is64 0 (u + 1023) 0 ((u + 1023) * 4503599627370496) :=
  ⟨by omega, by omega, by omega, by omega, by omega, by omega, by omega⟩
theorem pow_nar (u : Int) (h1 : -126 ≤ u) (h2 : u ≤ 127) : nar 0 (u + 1023) 0 = some ((u + 127) * 8388608) := by
  unfold nar
  rw [if_neg (by decide), if_pos (by omega)]
  exact congrArg some (by omega)
theorem walk8in (u : Int) (h1 : -126 ≤ u) (h2 : u ≤ 127) (w : World) :
    Calls Try.prog 8 #[.int .i64 u] w fun e w' => e = .returned (.bool true) ∧ Grown w w' := by
  have k1 := bz_11
  have k2 := bz_8
  have k3 := pow_is64 u h1 h2
  have k4 := pow_nar u h1 h2
  have K3 : Hid (Is64 0 (u + 1023) 0 ((u + 1023) * 4503599627370496)) := k3
  have K4 : Hid (nar 0 (u + 1023) 0 = some ((u + 127) * 8388608)) := k4
  clear k3 k4
  go_enter Try.func8, Try.ntmps8
  go_wp2_with (first | (go_at_call 13; refine (zzbias_any _ _ (by decide) (by decide) _).mono ?_; rintro e w' ⟨rfl, rfl⟩) | (go_at_call 9; refine (zznar_yes K3.out K4.out _).mono ?_; rintro e w' ⟨rfl, rfl⟩))
  go_ret
  exact ⟨rfl, by repeat (first | exact Grown.refl _ | apply Grown.drew | apply Grown.alloc)⟩
theorem walk8 (u : Int) (w : World) :
    Calls Try.prog 8 #[.int .i64 u] w fun e w' => e = .returned (.bool true) ∧ Grown w w' := by
  by_cases h1 : u < -126
  · go_enter Try.func8, Try.ntmps8
    go_wp2
    go_ret
    exact ⟨rfl, Grown.refl _⟩
  · by_cases h2 : 127 < u
    · go_enter Try.func8, Try.ntmps8
      go_wp2
      go_ret
      exact ⟨rfl, Grown.refl _⟩
    · exact walk8in u (by omega) (by omega) w
end Go.Proofs.Qxb6608925a

import Derived.Test.Qxb6608925aRows
import Derived.WalkKit
import Derived.RowKit3
import Derived.Laws.ShiftsVar
namespace Go.Proofs.Qxb6608925a
open Go.RowKit
set_option linter.unusedVariables false

/-- The plain function of bias: 2^(n-1) - 1. -/
def bz (n : Int) : Int := 2 ^ (n.toNat - 1) - 1

theorem pow_bd (k : Nat) (h : k ≤ 31) : (1 : Int) ≤ 2 ^ k ∧ (2 : Int) ^ k ≤ 2147483648 := by
  have h0 : (0 : Int) < 2 ^ k := Int.pow_pos (by decide)
  have h1 : (2 : Nat) ^ k ≤ 2 ^ 31 := Nat.pow_le_pow_right (by decide) h
  have h2 : ((2 ^ k : Nat) : Int) = (2 : Int) ^ k := by simp
  omega
theorem bz_bd (n : Int) (h1 : 1 ≤ n) (h2 : n ≤ 31) : 0 ≤ bz n ∧ bz n ≤ 1073741823 := by
  unfold bz
  have h0 : (0 : Int) < 2 ^ (n.toNat - 1) := Int.pow_pos (by decide)
  have h3 : (2 : Nat) ^ (n.toNat - 1) ≤ 2 ^ 30 := Nat.pow_le_pow_right (by decide) (by omega)
  have h4 : ((2 ^ (n.toNat - 1) : Nat) : Int) = (2 : Int) ^ (n.toNat - 1) := by simp
  omega
theorem bz_pow (n : Int) (h1 : 1 ≤ n) : (2 : Int) ^ n.toNat = 2 * bz n + 2 := by
  unfold bz
  have : (2 : Int) ^ n.toNat = 2 ^ (n.toNat - 1) * 2 := by rw [← Int.pow_succ]; congr 1; omega
  omega
theorem bz_succ (n : Int) (h1 : 1 ≤ n) : bz (n + 1) = 2 * bz n + 1 := by
  have := bz_pow n h1
  have e : (n + 1).toNat - 1 = n.toNat := by omega
  unfold bz at *
  rw [e]; omega
theorem wrap_of (x : Int) (h1 : -9223372036854775808 ≤ x) (h2 : x ≤ 9223372036854775807) : wrap64 x = x := by
  unfold wrap64; omega

theorem ret_i64 {a b : Int} (h : a = b) : Ending.returned (.int .i64 a) = .returned (.int .i64 b) := by rw [h]

theorem bias_any (n f : Int) (h1 : 1 ≤ n) (h2 : n ≤ 31) (w : World) :
    Calls Try.prog 17 #[.agg #[.int .u64 n, .int .u64 f]] w fun e w' => e = .returned (.int .i64 (bz n)) ∧ w' = w.alloc (.cells #[.int .u64 n, .int .u64 f] 40) := by
  have H : wrap64 (wrap64 (2 ^ (n.toNat - 1)) - 1) = bz n := by
    obtain ⟨p1, p2⟩ := bz_bd n h1 h2
    have e : (2 : Int) ^ (n.toNat - 1) = bz n + 1 := by unfold bz; omega
    rw [e, wrap_of (bz n + 1) (by omega) (by omega), wrap_of _ (by omega) (by omega)]; omega
  have HH : Hid (wrap64 (wrap64 (2 ^ (n.toNat - 1)) - 1) = bz n) := H
  clear H
  go_enter Try.func17, Try.ntmps17
  go_wp2
  go_ret
  exact ⟨ret_i64 HH.out, rfl⟩

theorem zzbias_any (n f : Int) (h1 : 1 ≤ n) (h2 : n ≤ 31) (w : World) :
    Calls Try.prog 13 #[.int .u64 n, .int .u64 f] w fun e w' => e = .returned (.int .i64 (bz n)) ∧ w' = w.alloc (.cells #[.int .u64 n, .int .u64 f] 40) := by
  go_enter Try.func13, Try.ntmps13
  go_wp2_with (go_at_call 17; refine (bias_any _ _ h1 h2 _).mono ?_; rintro e w' ⟨rfl, rfl⟩)
  go_ret
  exact ⟨rfl, rfl⟩

theorem walk7in (a0 a1 a2 : Int) (h1 : 1 ≤ a0) (h2 : a0 ≤ 30) (w : World) :
    Calls Try.prog 7 #[.int .u64 a0, .int .u64 a1, .int .u64 a2] w fun e w' => e = .returned (.bool true) ∧ Grown w w' := by
  obtain ⟨p1, p2⟩ := bz_bd a0 h1 (by omega)
  have k1 : wrap64 (2 ^ a0.toNat) = 2 * bz a0 + 2 := by rw [bz_pow a0 h1, wrap_of _ (by omega) (by omega)]
  have k2 := bz_succ a0 h1
  have c1 : decide (a0 < 1) = false := by simp; omega
  have c2 : decide (30 < a0) = false := by simp; omega
  go_enter Try.func7, Try.ntmps7
  go_wp2_with (go_at_call 13; refine (zzbias_any _ _ (by omega) (by omega) _).mono ?_; rintro e w' ⟨rfl, rfl⟩)
  go_ret
  exact ⟨rfl, by repeat (first | exact Grown.refl _ | apply Grown.drew | apply Grown.alloc)⟩

theorem walk7out (a0 a1 a2 : Int) (h : a0 < 1 ∨ 30 < a0) (w : World) :
    Calls Try.prog 7 #[.int .u64 a0, .int .u64 a1, .int .u64 a2] w fun e w' => e = .returned (.bool true) ∧ Grown w w' := by
  rcases h with h | h
  · go_enter Try.func7, Try.ntmps7
    go_wp2
    go_ret
    exact ⟨rfl, Grown.refl _⟩
  · have c1 : decide (a0 < 1) = false := by simp; omega
    go_enter Try.func7, Try.ntmps7
    go_wp2
    go_ret
    exact ⟨rfl, Grown.refl _⟩

theorem walk7 (a0 a1 a2 : Int) (w : World) :
    Calls Try.prog 7 #[.int .u64 a0, .int .u64 a1, .int .u64 a2] w fun e w' => e = .returned (.bool true) ∧ Grown w w' := by
  by_cases h : a0 < 1 ∨ 30 < a0
  · exact walk7out a0 a1 a2 h w
  · exact walk7in a0 a1 a2 (by omega) (by omega) w
end Go.Proofs.Qxb6608925a

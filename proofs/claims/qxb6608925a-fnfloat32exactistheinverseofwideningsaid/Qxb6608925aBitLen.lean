/- The walks of f32BitLen and f32TrailingZeros. -/
import Derived.Test.Qxb6608925aRows
import Derived.Test.Qxb6608925aBitsPlain
import Derived.WalkKit
import Derived.LoopTactic
import Derived.Laws.ShiftsVar
namespace Go.Proofs.Qxb6608925a
open Go.RowKit
set_option linter.unusedVariables false
theorem ret_i64' {a b : Int} (h : a = b) : Ending.returned (.int .i64 a) = .returned (.int .i64 b) := by rw [h]
theorem ret_u64 {a b : Int} (h : a = b) : Ending.returned (.int .u64 a) = .returned (.int .u64 b) := by rw [h]

/-- Bits that a number takes. -/
def bn (y : Int) : Nat := if y = 0 then 0 else bl y
theorem bn_step (y : Int) (h : 0 < y) : bn y = bn (y / 2) + 1 := by
  unfold bn
  rw [if_neg (by omega)]
  by_cases c : y / 2 = 0
  · rw [if_pos c]
    exact bl_of y 1 (by decide) (by simp; omega) (by simp; omega)
  · rw [if_neg c]
    have a := bl_lo (y / 2) (by omega)
    have b := bl_hi (y / 2) (by omega)
    have d : 1 ≤ bl (y / 2) := by unfold bl; omega
    have e1 : (2 : Int) ^ (bl (y / 2) + 1) = 2 ^ bl (y / 2) * 2 := Int.pow_succ _ _
    have e2 : (2 : Int) ^ (bl (y / 2)) = 2 ^ (bl (y / 2) - 1) * 2 := by rw [← Int.pow_succ]; congr 1
    refine bl_of y _ (by omega) ?_ ?_
    · rw [show bl (y / 2) + 1 - 1 = bl (y / 2) from rfl, e2]; omega
    · rw [e1]; omega
theorem bn_64 (x : Int) (h0 : 0 < x) (h1 : x < 18446744073709551616) : bn x ≤ 64 := by
  unfold bn; rw [if_neg (by omega)]; exact bl_le x 64 h0 (by simpa using h1)

theorem bitlen_any (x : Int) (h0 : 0 < x) (h1 : x < 18446744073709551616) (w : World) :
    Calls Try.prog 16 #[.int .u64 x] w fun e w' => e = .returned (.int .i64 (bl x)) ∧ w' = w := by
  have hx := bn_64 x h0 h1
  have HB : Hid (bn x = bl x) := by show bn x = bl x; unfold bn; rw [if_neg (by omega)]
  go_enter Try.func16, Try.ntmps16
  go_wp2
  go_loop [0, 3] (fun a n => ∃ (y : Int) (k : Nat), a = .int .u64 y ∧ n = .int .i64 k ∧ 0 ≤ y ∧ y < 18446744073709551616 ∧ Hid (bn y + k = bn x)) (fun a _ => (intOf a).toNat)
  case atStart => exact ⟨x, 0, rfl, rfl, by omega, by omega, rfl⟩
  case round =>
    obtain ⟨y, k, rfl, rfl, y0, y1, HK⟩ := hrel
    by_cases c : y = 0
    · subst c
      go_wp2
      go_ret
      exact ⟨ret_i64' (by have := HK.out; rw [HB.out] at this; simp [bn] at this; omega), rfl⟩
    · have hs := bn_step y (by omega)
      have hk : k + 1 ≤ 64 := by have := HK.out; omega
      have c' : (y != 0) = true := by simpa using c
      have HK' : Hid (bn (y / 2) + (k + 1) = bn x) := by have := HK.out; show _ = _; omega
      clear HK hs
      go_wp2
      go_round
      case rel => exact ⟨y / 2, k + 1, rfl, by go_num, by omega, by omega, HK'⟩
      case measure => simp [intOf]; omega

theorem and_one (y : Int) (h0 : 0 ≤ y) (h1 : y < 18446744073709551616) : bits .and .u64 y 1 = y % 2 := mask64 y 1 2 1 (by decide) (by decide) (by decide) h0 h1
theorem pow_lt64 (x y : Int) (k : Nat) (h0 : 0 < y) (h1 : x < 18446744073709551616) (h : x = y * 2 ^ k) : k < 64 := by
  rcases Nat.lt_or_ge k 64 with c | c
  · exact c
  · have := pow_mono 64 k c
    rw [show (2 : Int) ^ 64 = 18446744073709551616 from by decide] at this
    have h2 : 1 * 2 ^ k ≤ y * 2 ^ k := Int.mul_le_mul_of_nonneg_right (by omega) (by omega)
    omega
/-- x is an odd number times 2^k. -/
def Tz (x : Int) (k : Nat) : Prop := ∃ o : Int, 0 < o ∧ o % 2 = 1 ∧ x = o * 2 ^ k
theorem tz_any (x : Int) (h0 : 0 < x) (h1 : x < 18446744073709551616) (w : World) :
    Calls Try.prog 15 #[.int .u64 x] w fun e w' => ∃ k : Nat, e = .returned (.int .i64 k) ∧ k < 64 ∧ w' = w ∧ Tz x k := by
  go_enter Try.func15, Try.ntmps15
  go_wp2
  go_loop [0, 3] (fun a n => ∃ (y : Int) (k : Nat), a = .int .u64 y ∧ n = .int .i64 k ∧ 0 < y ∧ y < 18446744073709551616 ∧ Hid (x = y * 2 ^ k)) (fun a _ => (intOf a).toNat)
  case atStart => exact ⟨x, 0, rfl, rfl, by omega, by omega, by show _ = _; simp⟩
  case round =>
    obtain ⟨y, k, rfl, rfl, y0, y1, HK⟩ := hrel
    have hk := pow_lt64 x y k y0 h1 HK.out
    have ha := and_one y (by omega) y1
    by_cases c : y % 2 = 0
    · rw [c] at ha
      have HK' : Hid (x = y / 2 * 2 ^ (k + 1)) := by
        show _ = _
        have := HK.out
        rw [Int.pow_succ, Int.mul_comm (2 ^ k) 2, ← Int.mul_assoc, show y / 2 * 2 = y by omega]; exact this
      go_wp2
      go_round
      case rel => exact ⟨y / 2, k + 1, rfl, by go_num, by omega, by omega, HK'⟩
      case measure => simp [intOf]; omega
    · have c1 : y % 2 = 1 := by omega
      rw [c1] at ha
      go_wp2
      go_ret
      exact ⟨k, rfl, hk, rfl, y, y0, c1, HK.out⟩
end Go.Proofs.Qxb6608925a

/- The walk of f32Candidate, and of the law FnFloat32ExactIsTheInverseOfWidening. -/
import Derived.Test.Qxb6608925aWid
namespace Go.Proofs.Qxb6608925a
open Go.RowKit
set_option linter.unusedVariables false
theorem ret_u32 {a b : Int} (h : a = b) : Ending.returned (.int .u32 a) = .returned (.int .u32 b) := by rw [h]

/-! ### Trailing zeros: one count, and there is one -/
theorem tz_lt (x : Int) (j k : Nat) (hj : Tz x j) (hk : Tz x k) (h : j < k) : False := by
  obtain ⟨o, o0, o1, o2⟩ := hj
  obtain ⟨q, q0, q1, q2⟩ := hk
  have hp : (0 : Int) < 2 ^ j := Int.pow_pos (by decide)
  have e1 : (2 : Int) ^ k = 2 ^ (k - j - 1) * 2 * 2 ^ j := by rw [← Int.pow_succ, ← Int.pow_add]; congr 1; omega
  have e2 : o * 2 ^ j = (q * 2 ^ (k - j - 1) * 2) * 2 ^ j := by rw [← o2, q2, e1]; simp only [Int.mul_assoc]
  have e3 : o = q * 2 ^ (k - j - 1) * 2 := Int.eq_of_mul_eq_mul_right (by omega) e2
  omega
theorem tz_one (x : Int) (j k : Nat) (hj : Tz x j) (hk : Tz x k) : j = k := by
  rcases Nat.lt_trichotomy j k with h | h | h
  · exact (tz_lt x j k hj hk h).elim
  · exact h
  · exact (tz_lt x k j hk hj h).elim
theorem tz_ex (n : Nat) : ∀ x : Int, 0 < x → x ≤ n → ∃ k, Tz x k := by
  induction n with
  | zero => intro x h0 h1; omega
  | succ n ih =>
    intro x h0 h1
    by_cases c : x % 2 = 1
    · exact ⟨0, x, h0, c, by simp⟩
    · obtain ⟨k, o, a, b, d⟩ := ih (x / 2) (by omega) (by omega)
      refine ⟨k + 1, o, a, b, ?_⟩
      rw [Int.pow_succ, ← Int.mul_assoc, ← d]; omega
theorem tz_exact (x : Int) (k : Nat) (h0 : 0 < x) (h1 : x < 18446744073709551616) (h : Tz x k) (w : World) :
    Calls Try.prog 15 #[.int .u64 x] w fun e w' => e = .returned (.int .i64 k) ∧ w' = w := by
  refine (tz_any x h0 h1 w).mono ?_
  rintro e w' ⟨j, rfl, _, rfl, hj⟩
  rw [tz_one x j k hj h]
  exact ⟨rfl, rfl⟩
theorem tz_mul (x : Int) (k j : Nat) (h : Tz x k) : Tz (x * 2 ^ j) (k + j) := by
  obtain ⟨o, a, b, d⟩ := h
  exact ⟨o, a, b, by rw [d, Int.pow_add, Int.mul_assoc]⟩
/-- The odd part takes as many bits fewer as there are trailing zeros. -/
theorem bl_odd (x o : Int) (k : Nat) (h0 : 0 < o) (h : x = o * 2 ^ k) : bl x = bl o + k := by
  have a := bl_lo o h0
  have b := bl_hi o h0
  have d : 1 ≤ bl o := by unfold bl; omega
  have hp : (0 : Int) < 2 ^ k := Int.pow_pos (by decide)
  refine bl_of x _ (by omega) ?_ ?_
  · rw [show bl o + k - 1 = bl o - 1 + k by omega, Int.pow_add, h]
    exact Int.mul_le_mul_of_nonneg_right a (by omega)
  · rw [Int.pow_add, h]
    exact Int.mul_lt_mul_of_pos_right b hp
theorem odd_part (x o : Int) (k : Nat) (h : x = o * 2 ^ k) : x / 2 ^ k = o := by
  have hp : (0 : Int) < 2 ^ k := Int.pow_pos (by decide)
  rw [h, Int.mul_ediv_cancel _ (by omega)]
theorem bits32_bd (op : BinOp) (x y : Int) : 0 ≤ bits op .u32 x y ∧ bits op .u32 x y < 4294967296 := by
  unfold bits
  rw [IntKind.wrap_u32']
  omega

/-! ### The ways of function 10, each under its tests in the walk's own forms -/
theorem c_inf (b fr r : Int) (w : World) (h1 : 0 ≤ b) (h2 : b < 18446744073709551616) (R1 : bits .and .u64 (b / 4503599627370496) 2047 = 2047) (R2 : bits .and .u64 b 4503599627370495 = fr) (f0 : 0 ≤ fr) (f1 : fr < 4503599627370496)
    (H : Hid (bits .or .u32 (bits .or .u32 (b / 9223372036854775808 * 2147483648) 2139095040) (fr / 536870912) = r)) :
    Calls Try.prog 10 #[.int .u64 b] w fun e w' => e = .returned (.int .u32 r) ∧ w' = w := by
  go_enter Try.func10, Try.ntmps10
  go_wp2
  go_ret
  exact ⟨ret_u32 H.out, rfl⟩
theorem c_zero (b r : Int) (w : World) (h1 : 0 ≤ b) (h2 : b < 18446744073709551616) (R1 : bits .and .u64 (b / 4503599627370496) 2047 = 0) (R2 : bits .and .u64 b 4503599627370495 = 0)
    (H : Hid (b / 9223372036854775808 * 2147483648 = r)) :
    Calls Try.prog 10 #[.int .u64 b] w fun e w' => e = .returned (.int .u32 r) ∧ w' = w := by
  go_enter Try.func10, Try.ntmps10
  go_wp2
  go_ret
  exact ⟨ret_u32 H.out, rfl⟩
/-- A binary64 subnormal: the answer is 0. -/
theorem c_tiny (b fr o : Int) (t p : Nat) (w : World) (h1 : 0 ≤ b) (h2 : b < 18446744073709551616) (R1 : bits .and .u64 (b / 4503599627370496) 2047 = 0) (R2 : bits .and .u64 b 4503599627370495 = fr)
    (f0 : 0 < fr) (f1 : fr < 4503599627370496) (k1 : (fr == 0) = false)
    (T : Hid (Tz fr t)) (t0 : t < 64) (R4 : fr / 2 ^ t = o) (o0 : 0 < o) (o1 : o < 4503599627370496) (R5 : bl o = p) (p0 : 1 ≤ p) (p1 : p ≤ 64) :
    Calls Try.prog 10 #[.int .u64 b] w fun e w' => e = .returned (.int .u32 0) ∧ w' = w := by
  by_cases c : 24 < p
  all_goals
    go_enter Try.func10, Try.ntmps10
    go_wp2_with (first | (go_at_call 15; refine (tz_exact fr t (by omega) (by omega) T.out _).mono ?_; rintro e w' ⟨rfl, rfl⟩) | (go_at_call 16; refine (bitlen_any o o0 (by omega) _).mono ?_; rintro e w' ⟨rfl, rfl⟩))
    go_ret
    exact ⟨rfl, rfl⟩
/-- The value does not fit: the answer is 0. -/
theorem c_out (b e fr m o : Int) (t p : Nat) (w : World) (h1 : 0 ≤ b) (h2 : b < 18446744073709551616) (R1 : bits .and .u64 (b / 4503599627370496) 2047 = e) (R2 : bits .and .u64 b 4503599627370495 = fr)
    (R3 : bits .or .u64 fr 4503599627370496 = m) (m0 : 4503599627370496 ≤ m) (m1 : m < 9007199254740992) (e0 : 0 < e) (e1 : e < 2047) (k1 : (e == 2047) = false) (k2 : (e == 0) = false)
    (T : Hid (Tz m t)) (t0 : t < 64) (R4 : m / 2 ^ t = o) (o0 : 0 < o) (o1 : o < 9007199254740992) (R5 : bl o = p) (p0 : 1 ≤ p) (p1 : p ≤ 64)
    (q : 24 < p ∨ (p ≤ 24 ∧ 127 < e - 1075 + t + p - 1) ∨ (p ≤ 24 ∧ e - 1075 + t + p - 1 ≤ 127 ∧ e - 1075 + t < -149)) :
    Calls Try.prog 10 #[.int .u64 b] w fun e w' => e = .returned (.int .u32 0) ∧ w' = w := by
  rcases q with q | ⟨q1, q2⟩ | ⟨q1, q2, q3⟩
  all_goals
    go_enter Try.func10, Try.ntmps10
    go_wp2_with (first | (go_at_call 15; refine (tz_exact m t (by omega) (by omega) T.out _).mono ?_; rintro e w' ⟨rfl, rfl⟩) | (go_at_call 16; refine (bitlen_any o o0 (by omega) _).mono ?_; rintro e w' ⟨rfl, rfl⟩))
    go_ret
    exact ⟨rfl, rfl⟩
theorem c_big (b e fr m o r : Int) (t p : Nat) (w : World) (h1 : 0 ≤ b) (h2 : b < 18446744073709551616) (R1 : bits .and .u64 (b / 4503599627370496) 2047 = e) (R2 : bits .and .u64 b 4503599627370495 = fr)
    (R3 : bits .or .u64 fr 4503599627370496 = m) (m0 : 4503599627370496 ≤ m) (m1 : m < 9007199254740992) (e0 : 0 < e) (e1 : e < 2047) (k1 : (e == 2047) = false) (k2 : (e == 0) = false)
    (T : Hid (Tz m t)) (t0 : t < 64) (R4 : m / 2 ^ t = o) (o0 : 0 < o) (o1 : o < 9007199254740992) (R5 : bl o = p) (p0 : 1 ≤ p) (p1 : p ≤ 24) (q1 : e - 1075 + t + p - 1 ≤ 127) (q2 : -149 ≤ e - 1075 + t) (q3 : -126 ≤ e - 1075 + t + p - 1)
    (H : Hid (bits .or .u32 (bits .or .u32 (b / 9223372036854775808 * 2147483648) ((e - 1075 + t + p - 1 + 127) * 8388608)) (bits .and .u32 (IntKind.u64.wrap (o * 2 ^ (24 - p)) % 4294967296) 8388607) = r)) :
    Calls Try.prog 10 #[.int .u64 b] w fun e w' => e = .returned (.int .u32 r) ∧ w' = w := by
  go_enter Try.func10, Try.ntmps10
  go_wp2_with (first | (go_at_call 15; refine (tz_exact m t (by omega) (by omega) T.out _).mono ?_; rintro e w' ⟨rfl, rfl⟩) | (go_at_call 16; refine (bitlen_any o o0 (by omega) _).mono ?_; rintro e w' ⟨rfl, rfl⟩))
  go_ret
  exact ⟨ret_u32 H.out, rfl⟩
theorem c_small (b e fr m o r : Int) (t p : Nat) (w : World) (h1 : 0 ≤ b) (h2 : b < 18446744073709551616) (R1 : bits .and .u64 (b / 4503599627370496) 2047 = e) (R2 : bits .and .u64 b 4503599627370495 = fr)
    (R3 : bits .or .u64 fr 4503599627370496 = m) (m0 : 4503599627370496 ≤ m) (m1 : m < 9007199254740992) (e0 : 0 < e) (e1 : e < 2047) (k1 : (e == 2047) = false) (k2 : (e == 0) = false)
    (T : Hid (Tz m t)) (t0 : t < 64) (R4 : m / 2 ^ t = o) (o0 : 0 < o) (o1 : o < 9007199254740992) (R5 : bl o = p) (p0 : 1 ≤ p) (p1 : p ≤ 24) (q1 : e - 1075 + t + p - 1 ≤ 127) (q2 : -149 ≤ e - 1075 + t) (q3 : e - 1075 + t + p - 1 < -126)
    (H : Hid (bits .or .u32 (b / 9223372036854775808 * 2147483648) (IntKind.u64.wrap (o * 2 ^ (e - 1075 + t + 149).toNat) % 4294967296) = r)) :
    Calls Try.prog 10 #[.int .u64 b] w fun e w' => e = .returned (.int .u32 r) ∧ w' = w := by
  go_enter Try.func10, Try.ntmps10
  go_wp2_with (first | (go_at_call 15; refine (tz_exact m t (by omega) (by omega) T.out _).mono ?_; rintro e w' ⟨rfl, rfl⟩) | (go_at_call 16; refine (bitlen_any o o0 (by omega) _).mono ?_; rintro e w' ⟨rfl, rfl⟩))
  go_ret
  exact ⟨ret_u32 H.out, rfl⟩
end Go.Proofs.Qxb6608925a

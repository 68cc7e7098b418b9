/- The walk of float32FromFloat64Exact: it answers as the plain function 'nar' does. -/
import Derived.Test.Qxb6608925aRows
import Derived.Test.Qxb6608925aBitsPlain
import Derived.WalkKit
import Derived.OwnWalk
import Derived.Laws.ShiftsVar
namespace Go.Proofs.Qxb6608925a
open Go.RowKit
set_option linter.unusedVariables false
theorem ret_pair {a a' : Int} {k : Bool} (h : a = a') : Ending.returned (.tuple #[.int .u32 a, .bool k]) = .returned (.tuple #[.int .u32 a', .bool k]) := by rw [h]

/-! ### The ways of function 14, each under its tests in the walk's own forms -/
theorem n_low (b : Int) (w : World) (h1 : 0 ≤ b) (h2 : b < 18446744073709551616) (R2 : (bits .and .u64 b 536870911 != 0) = true) :
    Calls Try.prog 14 #[.int .u64 b] w fun e w' => e = .returned (.tuple #[.int .u32 0, .bool false]) ∧ w' = w := by
  go_enter Try.func14, Try.ntmps14
  go_wp2
  go_ret2
  exact ⟨rfl, rfl⟩
theorem n_norm (b e S r : Int) (w : World) (h1 : 0 ≤ b) (h2 : b < 18446744073709551616) (R1 : bits .and .u64 (b / 4503599627370496) 2047 = e) (R5 : bits .and .u32 (b / 4294967296) 2147483648 = S)
    (R2 : (bits .and .u64 b 536870911 != 0) = false) (h3 : 897 ≤ e) (h4 : e ≤ 1150)
    (H : Hid (bits .or .u32 (bits .or .u32 S ((e - 896) * 8388608)) (bits .and .u32 (b / 536870912 % 4294967296) 8388607) = r)) :
    Calls Try.prog 14 #[.int .u64 b] w fun e w' => e = .returned (.tuple #[.int .u32 r, .bool true]) ∧ w' = w := by
  go_enter Try.func14, Try.ntmps14
  go_wp2
  go_ret2
  exact ⟨ret_pair H.out, rfl⟩
theorem n_inf (b S r : Int) (w : World) (h1 : 0 ≤ b) (h2 : b < 18446744073709551616) (R1 : bits .and .u64 (b / 4503599627370496) 2047 = 2047) (R5 : bits .and .u32 (b / 4294967296) 2147483648 = S)
    (R2 : (bits .and .u64 b 536870911 != 0) = false)
    (H : Hid (bits .or .u32 S (bits .andNot .u32 (b / 536870912 % 4294967296) 2147483648) = r)) :
    Calls Try.prog 14 #[.int .u64 b] w fun e w' => e = .returned (.tuple #[.int .u32 r, .bool true]) ∧ w' = w := by
  go_enter Try.func14, Try.ntmps14
  go_wp2
  go_ret2
  exact ⟨ret_pair H.out, rfl⟩
theorem n_zero (b S r : Int) (w : World) (h1 : 0 ≤ b) (h2 : b < 18446744073709551616) (R1 : bits .and .u64 (b / 4503599627370496) 2047 = 0) (R5 : bits .and .u32 (b / 4294967296) 2147483648 = S)
    (R2 : (bits .and .u64 b 536870911 != 0) = false) (R4 : (IntKind.u64.wrap (b * 2) == 0) = true)
    (H : Hid (bits .or .u32 S (bits .andNot .u32 (b / 536870912 % 4294967296) 2147483648) = r)) :
    Calls Try.prog 14 #[.int .u64 b] w fun e w' => e = .returned (.tuple #[.int .u32 r, .bool true]) ∧ w' = w := by
  go_enter Try.func14, Try.ntmps14
  go_wp2
  go_ret2
  exact ⟨ret_pair H.out, rfl⟩
theorem n_out (b e : Int) (w : World) (h1 : 0 ≤ b) (h2 : b < 18446744073709551616) (R1 : bits .and .u64 (b / 4503599627370496) 2047 = e)
    (R2 : (bits .and .u64 b 536870911 != 0) = false) (h3 : 0 ≤ e) (h4 : e < 2047) (k1 : 254 ≤ IntKind.u64.wrap (e - 897)) (k2 : (e == 2047) = false) (k3 : 23 ≤ IntKind.u64.wrap (e - 874)) (R4 : (IntKind.u64.wrap (b * 2) == 0) = false) :
    Calls Try.prog 14 #[.int .u64 b] w fun e w' => e = .returned (.tuple #[.int .u32 0, .bool false]) ∧ w' = w := by
  go_enter Try.func14, Try.ntmps14
  go_wp2
  go_ret2
  exact ⟨rfl, rfl⟩
theorem n_subno (b e m S : Int) (w : World) (h1 : 0 ≤ b) (h2 : b < 18446744073709551616) (R1 : bits .and .u64 (b / 4503599627370496) 2047 = e) (R5 : bits .and .u32 (b / 4294967296) 2147483648 = S)
    (R3 : bits .or .u64 (bits .and .u64 b 4503599627370495) 4503599627370496 = m)
    (R2 : (bits .and .u64 b 536870911 != 0) = false) (h3 : 874 ≤ e) (h4 : e ≤ 896) (k1 : 254 ≤ IntKind.u64.wrap (e - 897)) (k2 : (e == 2047) = false) (R4 : (IntKind.u64.wrap (b * 2) == 0) = false)
    (R6 : (bits .and .u64 m (IntKind.u64.wrap (IntKind.u64.wrap (2 ^ (926 - e).toNat) - 1)) != 0) = true) :
    Calls Try.prog 14 #[.int .u64 b] w fun e w' => e = .returned (.tuple #[.int .u32 0, .bool false]) ∧ w' = w := by
  go_enter Try.func14, Try.ntmps14
  go_wp2
  go_ret2
  exact ⟨rfl, rfl⟩
theorem n_sub (b e m S r : Int) (w : World) (h1 : 0 ≤ b) (h2 : b < 18446744073709551616) (R1 : bits .and .u64 (b / 4503599627370496) 2047 = e) (R5 : bits .and .u32 (b / 4294967296) 2147483648 = S)
    (R3 : bits .or .u64 (bits .and .u64 b 4503599627370495) 4503599627370496 = m)
    (R2 : (bits .and .u64 b 536870911 != 0) = false) (h3 : 874 ≤ e) (h4 : e ≤ 896) (k1 : 254 ≤ IntKind.u64.wrap (e - 897)) (k2 : (e == 2047) = false) (R4 : (IntKind.u64.wrap (b * 2) == 0) = false)
    (R6 : (bits .and .u64 m (IntKind.u64.wrap (IntKind.u64.wrap (2 ^ (926 - e).toNat) - 1)) != 0) = false)
    (H : Hid (bits .or .u32 S (m / 2 ^ (926 - e).toNat % 4294967296) = r)) :
    Calls Try.prog 14 #[.int .u64 b] w fun e w' => e = .returned (.tuple #[.int .u32 r, .bool true]) ∧ w' = w := by
  go_enter Try.func14, Try.ntmps14
  go_wp2
  go_ret2
  exact ⟨ret_pair H.out, rfl⟩

/-! ### The fields of a binary64, as the Go text reads them -/
/-- b is the binary64 of the fields s, e, fr. -/
structure Is64 (s e fr b : Int) : Prop where
  s0 : 0 ≤ s
  s1 : s ≤ 1
  e0 : 0 ≤ e
  e1 : e ≤ 2047
  f0 : 0 ≤ fr
  f1 : fr < 4503599627370496
  eq : b = s * 9223372036854775808 + e * 4503599627370496 + fr

theorem is64_of (b : Int) (h1 : 0 ≤ b) (h2 : b < 18446744073709551616) : Is64 (b / 9223372036854775808) (b / 4503599627370496 % 2048) (b % 4503599627370496) b :=
  ⟨by omega, by omega, by omega, by omega, by omega, by omega, by omega⟩

variable {s e fr b : Int}
theorem Is64.lo (h : Is64 s e fr b) : 0 ≤ b := by obtain ⟨a1, a2, a3, a4, a5, a6, a7⟩ := h; omega
theorem Is64.hi (h : Is64 s e fr b) : b < 18446744073709551616 := by obtain ⟨a1, a2, a3, a4, a5, a6, a7⟩ := h; omega
theorem Is64.exp (h : Is64 s e fr b) : bits .and .u64 (b / 4503599627370496) 2047 = e := by
  have l := h.lo; have u := h.hi; obtain ⟨a1, a2, a3, a4, a5, a6, a7⟩ := h
  rw [mask64 _ 2047 2048 11 (by decide) (by decide) (by decide) (by omega) (by omega)]; omega
theorem Is64.low (h : Is64 s e fr b) : bits .and .u64 b 536870911 = fr % 536870912 := by
  have l := h.lo; have u := h.hi; obtain ⟨a1, a2, a3, a4, a5, a6, a7⟩ := h
  rw [mask64 _ 536870911 536870912 29 (by decide) (by decide) (by decide) (by omega) (by omega)]; omega
theorem Is64.frac (h : Is64 s e fr b) : bits .and .u64 b 4503599627370495 = fr := by
  have l := h.lo; have u := h.hi; obtain ⟨a1, a2, a3, a4, a5, a6, a7⟩ := h
  rw [mask64 _ 4503599627370495 4503599627370496 52 (by decide) (by decide) (by decide) (by omega) (by omega)]; omega
theorem Is64.mant (h : Is64 s e fr b) : bits .or .u64 (bits .and .u64 b 4503599627370495) 4503599627370496 = fr + 4503599627370496 := by
  rw [h.frac]; obtain ⟨a1, a2, a3, a4, a5, a6, a7⟩ := h
  have c := join64 4503599627370496 fr 4503599627370496 52 (by decide) (by decide) (by decide) (by decide) a5 a6 (by omega)
  obtain ⟨X, rfl⟩ := Int.eq_ofNat_of_zero_le a5
  have c1 := u64_or_nat 4503599627370496 X (by decide) (by omega)
  have c2 := u64_or_nat X 4503599627370496 (by omega) (by decide)
  rw [Nat.or_comm] at c2
  rw [show ((4503599627370496 : Nat) : Int) = 4503599627370496 from rfl] at c1 c2
  rw [c2, ← c1, c]; omega
theorem Is64.sign (h : Is64 s e fr b) : bits .and .u32 (b / 4294967296) 2147483648 = s * 2147483648 := by
  have l := h.lo; have u := h.hi; obtain ⟨a1, a2, a3, a4, a5, a6, a7⟩ := h
  rw [top32 _ (by omega) (by omega)]; omega
theorem Is64.frac32 (h : Is64 s e fr b) : bits .and .u32 (b / 536870912 % 4294967296) 8388607 = fr / 536870912 := by
  have l := h.lo; have u := h.hi; obtain ⟨a1, a2, a3, a4, a5, a6, a7⟩ := h
  rw [mask32 _ 8388607 8388608 23 (by decide) (by decide) (by decide) (by omega) (by omega)]; omega
theorem Is64.rest32 (h : Is64 s e fr b) : bits .andNot .u32 (b / 536870912 % 4294967296) 2147483648 = (e * 8388608 + fr / 536870912) % 2147483648 := by
  have l := h.lo; have u := h.hi; obtain ⟨a1, a2, a3, a4, a5, a6, a7⟩ := h
  rw [clr32 _ (by omega) (by omega)]; omega
theorem Is64.dbl (h : Is64 s e fr b) : (IntKind.u64.wrap (b * 2) == 0) = decide (e = 0 ∧ fr = 0) := by
  have l := h.lo; have u := h.hi; obtain ⟨a1, a2, a3, a4, a5, a6, a7⟩ := h
  rw [IntKind.wrap_u64, Bool.eq_iff_iff]; simp only [beq_iff_eq, decide_eq_true_eq]; omega

/-- float32FromFloat64Exact answers as 'nar' does. -/
theorem nar_any (h : Is64 s e fr b) (w : World) :
    Calls Try.prog 14 #[.int .u64 b] w fun x w' => x = .returned (.tuple #[.int .u32 ((nar s e fr).getD 0), .bool (nar s e fr).isSome]) ∧ w' = w := by
  have h' := h
  obtain ⟨a1, a2, a3, a4, a5, a6, a7⟩ := h'
  by_cases c0 : fr % 536870912 ≠ 0
  · have e0 : nar s e fr = none := by unfold nar; rw [if_pos c0]
    rw [e0]
    exact n_low b w h.lo h.hi (by rw [h.low]; simpa using c0)
  · have r2 : (bits .and .u64 b 536870911 != 0) = false := by rw [h.low]; simpa using c0
    by_cases c1 : 897 ≤ e ∧ e ≤ 1150
    · have e0 : nar s e fr = some (s * 2147483648 + (e - 896) * 8388608 + fr / 536870912) := by unfold nar; rw [if_neg c0, if_pos c1]
      rw [e0]
      refine n_norm b e _ _ w h.lo h.hi h.exp h.sign r2 c1.1 c1.2 ?_
      show _ = _
      rw [h.frac32, join32 (s * 2147483648) _ 2147483648 31 (by decide) (by omega) (by omega) (by omega) (by omega) (by omega) (by omega), join32 _ _ 8388608 23 (by decide) (by omega) (by omega) (by omega) (by omega) (by omega) (by omega)]
      rfl
    · have k1 : 254 ≤ IntKind.u64.wrap (e - 897) := by rw [IntKind.wrap_u64]; omega
      by_cases c2 : e = 2047
      · have e0 : nar s e fr = some (s * 2147483648 + 2139095040 + fr / 536870912) := by unfold nar; rw [if_neg c0, if_neg c1, if_pos c2]
        rw [e0]
        refine n_inf b _ _ w h.lo h.hi (by rw [h.exp, c2]) h.sign r2 ?_
        show _ = _
        rw [h.rest32, join32 (s * 2147483648) _ 2147483648 31 (by decide) (by omega) (by omega) (by omega) (by omega) (by omega) (by omega)]
        show _ = s * 2147483648 + 2139095040 + fr / 536870912
        omega
      · have k2 : (e == 2047) = false := by simpa using c2
        by_cases c3 : e = 0 ∧ fr = 0
        · have e0 : nar s e fr = some (s * 2147483648) := by unfold nar; rw [if_neg c0, if_neg c1, if_neg c2, if_pos c3]
          rw [e0]
          refine n_zero b _ _ w h.lo h.hi (by rw [h.exp, c3.1]) h.sign r2 (by rw [h.dbl]; simpa using c3) ?_
          show _ = _
          rw [h.rest32, join32 (s * 2147483648) _ 2147483648 31 (by decide) (by omega) (by omega) (by omega) (by omega) (by omega) (by omega)]
          show _ = s * 2147483648
          omega
        · have r4 : (IntKind.u64.wrap (b * 2) == 0) = false := by rw [h.dbl]; simpa using c3
          by_cases c4 : e < 874 ∨ 896 < e
          · have e0 : nar s e fr = none := by unfold nar; rw [if_neg c0, if_neg c1, if_neg c2, if_neg c3, if_pos c4]
            rw [e0]
            exact n_out b e w h.lo h.hi h.exp r2 a3 (by omega) k1 k2 (by rw [IntKind.wrap_u64]; omega) r4
          · have hp : (2 : Int) ^ (926 - e).toNat ≤ 2 ^ 52 := pow_mono _ _ (by omega)
            have hq : (2 : Int) ^ 30 ≤ 2 ^ (926 - e).toNat := pow_mono _ _ (by omega)
            rw [show (2 : Int) ^ 52 = 4503599627370496 from by decide] at hp
            rw [show (2 : Int) ^ 30 = 1073741824 from by decide] at hq
            have hm : bits .and .u64 (fr + 4503599627370496) (IntKind.u64.wrap (IntKind.u64.wrap (2 ^ (926 - e).toNat) - 1)) = (fr + 4503599627370496) % 2 ^ (926 - e).toNat := by
              have q1 : IntKind.u64.wrap (2 ^ (926 - e).toNat) = 2 ^ (926 - e).toNat := by rw [IntKind.wrap_u64]; omega
              have q2 : IntKind.u64.wrap (2 ^ (926 - e).toNat - 1) = 2 ^ (926 - e).toNat - 1 := by rw [IntKind.wrap_u64]; omega
              rw [q1, q2]
              exact mask64 _ _ _ (926 - e).toNat rfl rfl (by omega) (by omega) (by omega)
            by_cases c5 : (fr + 4503599627370496) % 2 ^ (926 - e).toNat ≠ 0
            · have e0 : nar s e fr = none := by unfold nar; rw [if_neg c0, if_neg c1, if_neg c2, if_neg c3, if_neg c4, if_pos c5]
              rw [e0]
              exact n_subno b e _ _ w h.lo h.hi h.exp h.sign h.mant r2 (by omega) (by omega) k1 k2 r4 (by rw [hm]; simpa using c5)
            · have e0 : nar s e fr = some (s * 2147483648 + (fr + 4503599627370496) / 2 ^ (926 - e).toNat) := by unfold nar; rw [if_neg c0, if_neg c1, if_neg c2, if_neg c3, if_neg c4, if_neg c5]
              rw [e0]
              refine n_sub b e _ _ _ w h.lo h.hi h.exp h.sign h.mant r2 (by omega) (by omega) k1 k2 r4 (by rw [hm]; simpa using c5) ?_
              show _ = _
              have u1 : (fr + 4503599627370496) / 2 ^ (926 - e).toNat < 8388608 := by
                apply Int.ediv_lt_of_lt_mul (by omega)
                omega
              have u2 : 0 ≤ (fr + 4503599627370496) / 2 ^ (926 - e).toNat := Int.ediv_nonneg (by omega) (by omega)
              rw [Int.emod_eq_of_lt u2 (by omega), join32 (s * 2147483648) _ 2147483648 31 (by decide) (by omega) (by omega) (by omega) u2 (by omega) (by omega)]
              rfl

/-- ZZfloat32FromFloat64Exact hands it on. -/
theorem zznar_any (h : Is64 s e fr b) (w : World) :
    Calls Try.prog 9 #[.int .u64 b] w fun x w' => x = .returned (.tuple #[.int .u32 ((nar s e fr).getD 0), .bool (nar s e fr).isSome]) ∧ w' = w := by
  go_enter Try.func9, Try.ntmps9
  go_wp2_with (go_at_call 14; refine (nar_any h _).mono ?_; rintro e w' ⟨rfl, rfl⟩)
  go_ret2
  exact ⟨rfl, rfl⟩
end Go.Proofs.Qxb6608925a

/- Bit laws over Int, and the plain law of narrowing and widening: no Go in sight. -/
import Derived.WalkKit
import Derived.Laws.BitsAllLaws
namespace Go.Proofs.Qxb6608925a

/-! ### Masks and joins -/
theorem powNat (k : Nat) : ((2 ^ k : Nat) : Int) = (2 : Int) ^ k := by simp
theorem mask64 (x m M : Int) (k : Nat) (hm : m = M - 1) (hM : M = 2 ^ k) (hk : M ≤ 18446744073709551616) (h0 : 0 ≤ x) (h1 : x < 18446744073709551616) :
    bits .and .u64 x m = x % M := by
  obtain ⟨X, rfl⟩ := Int.eq_ofNat_of_zero_le h0
  have hp : 0 < 2 ^ k := Nat.two_pow_pos k
  have hM' : M = ((2 ^ k : Nat) : Int) := by rw [hM, powNat]
  have hm' : m = ((2 ^ k - 1 : Nat) : Int) := by omega
  rw [hm', u64_and_nat X _ (by omega) (by omega), Nat.and_two_pow_sub_one_eq_mod, hM']
  omega
theorem mask32 (x m M : Int) (k : Nat) (hm : m = M - 1) (hM : M = 2 ^ k) (hk : M ≤ 4294967296) (h0 : 0 ≤ x) (h1 : x < 4294967296) :
    bits .and .u32 x m = x % M := by
  obtain ⟨X, rfl⟩ := Int.eq_ofNat_of_zero_le h0
  have hp : 0 < 2 ^ k := Nat.two_pow_pos k
  have hM' : M = ((2 ^ k : Nat) : Int) := by rw [hM, powNat]
  have hm' : m = ((2 ^ k - 1 : Nat) : Int) := by omega
  rw [hm', u32_and_nat X _ (by omega) (by omega), Nat.and_two_pow_sub_one_eq_mod, hM']
  omega
theorem join64 (x y M : Int) (k : Nat) (hM : M = 2 ^ k) (h0 : 0 ≤ x) (h1 : x < 18446744073709551616) (h2 : x % M = 0) (h3 : 0 ≤ y) (h4 : y < M) (h5 : y < 18446744073709551616) :
    bits .or .u64 x y = x + y := by
  obtain ⟨X, rfl⟩ := Int.eq_ofNat_of_zero_le h0
  obtain ⟨Y, rfl⟩ := Int.eq_ofNat_of_zero_le h3
  have hM' : M = ((2 ^ k : Nat) : Int) := by rw [hM, powNat]
  rw [hM'] at h2 h4
  have e : X ||| Y = X + Y := nat_join k X Y (by omega) (by omega)
  rw [u64_or_nat X Y (by omega) (by omega), e]
  omega
theorem join32 (x y M : Int) (k : Nat) (hM : M = 2 ^ k) (h0 : 0 ≤ x) (h1 : x < 4294967296) (h2 : x % M = 0) (h3 : 0 ≤ y) (h4 : y < M) (h5 : y < 4294967296) :
    bits .or .u32 x y = x + y := by
  obtain ⟨X, rfl⟩ := Int.eq_ofNat_of_zero_le h0
  obtain ⟨Y, rfl⟩ := Int.eq_ofNat_of_zero_le h3
  have hM' : M = ((2 ^ k : Nat) : Int) := by rw [hM, powNat]
  rw [hM'] at h2 h4
  have e : X ||| Y = X + Y := nat_join k X Y (by omega) (by omega)
  rw [u32_or_nat X Y (by omega) (by omega), e]
  omega
theorem top32 (x : Int) (h0 : 0 ≤ x) (h1 : x < 4294967296) : bits .and .u32 x 2147483648 = x / 2147483648 * 2147483648 := by
  obtain ⟨X, rfl⟩ := Int.eq_ofNat_of_zero_le h0
  have e := u32_and_nat X 2147483648 (by omega) (by decide)
  rw [show ((2147483648 : Nat) : Int) = 2147483648 from rfl] at e
  rw [e, nat_bit31]
  omega
theorem clr32 (x : Int) (h0 : 0 ≤ x) (h1 : x < 4294967296) : bits .andNot .u32 x 2147483648 = x % 2147483648 := by
  obtain ⟨X, rfl⟩ := Int.eq_ofNat_of_zero_le h0
  have e := u32_andNot_nat X 2147483648 (by omega) (by decide)
  rw [show ((2147483648 : Nat) : Int) = 2147483648 from rfl, show 4294967295 - 2147483648 = 2147483647 from rfl] at e
  rw [e, nat_mask31]
  omega
theorem xor64_one (x : Int) (h0 : 0 ≤ x) (h1 : x < 18446744073709551616) (h2 : x % 2 = 0) : bits .xor .u64 x 1 = x + 1 := by
  obtain ⟨X, rfl⟩ := Int.eq_ofNat_of_zero_le h0
  have e := u64_xor_nat X 1 (by omega) (by decide)
  rw [show ((1 : Nat) : Int) = 1 from rfl] at e
  have e2 : X ^^^ 1 = X + 1 := by
    have h3 : X = 2 * (X / 2) := by omega
    apply Nat.eq_of_testBit_eq
    intro i
    rw [h3]
    clear h3
    cases i with
    | zero => simp [Nat.testBit_zero]
    | succ i => rw [Nat.testBit_xor, Nat.testBit_succ, Nat.testBit_succ, Nat.testBit_succ, show 2 * (X / 2) / 2 = X / 2 from by omega, show (2 * (X / 2) + 1) / 2 = X / 2 from by omega]; simp
  rw [e, e2]
  omega

/-! ### Narrowing: the fields s, e, fr of a binary64 -/
/-- The binary32 that holds the binary64 of the fields s, e, fr exactly, if there is one. -/
def nar (s e fr : Int) : Option Int :=
  if fr % 536870912 ≠ 0 then none
  else if 897 ≤ e ∧ e ≤ 1150 then some (s * 2147483648 + (e - 896) * 8388608 + fr / 536870912)
  else if e = 2047 then some (s * 2147483648 + 2139095040 + fr / 536870912)
  else if e = 0 ∧ fr = 0 then some (s * 2147483648)
  else if e < 874 ∨ 896 < e then none
  else if (fr + 4503599627370496) % 2 ^ (926 - e).toNat ≠ 0 then none
  else some (s * 2147483648 + (fr + 4503599627370496) / 2 ^ (926 - e).toNat)

/-- Bits that a positive number takes. -/
def bl (f : Int) : Nat := Nat.log2 f.toNat + 1
theorem bl_lo (f : Int) (h : 0 < f) : 2 ^ (bl f - 1) ≤ f := by
  have := Nat.log2_self_le (n := f.toNat) (by omega)
  unfold bl
  rw [show f.toNat.log2 + 1 - 1 = f.toNat.log2 by omega, ← powNat]; omega
theorem bl_hi (f : Int) (h : 0 < f) : f < 2 ^ bl f := by
  have := Nat.lt_log2_self (n := f.toNat)
  unfold bl
  rw [← powNat]; omega
theorem pow_mono (a b : Nat) (h : a ≤ b) : (2 : Int) ^ a ≤ 2 ^ b := by
  have := Nat.pow_le_pow_right (n := 2) (by decide) h
  rw [← powNat, ← powNat]; omega
theorem bl_of (f : Int) (p : Nat) (h : 1 ≤ p) (h1 : 2 ^ (p - 1) ≤ f) (h2 : f < 2 ^ p) : bl f = p := by
  have h0 : (0 : Int) < 2 ^ (p - 1) := Int.pow_pos (by decide)
  have a := bl_lo f (by omega)
  have b := bl_hi f (by omega)
  have hb : 1 ≤ bl f := by unfold bl; omega
  rcases Nat.lt_trichotomy (bl f) p with hc | hc | hc
  · have := pow_mono (bl f) (p - 1) (by omega); omega
  · exact hc
  · have := pow_mono p (bl f - 1) (by omega); omega
theorem bl_le (f : Int) (n : Nat) (h0 : 0 < f) (h : f < 2 ^ n) : bl f ≤ n := by
  have a := bl_lo f h0
  rcases Nat.lt_or_ge n (bl f) with hc | hc
  · have := pow_mono n (bl f - 1) (by omega); omega
  · exact hc

/-- The exponent field of the binary64 to which the binary32 of the fields e, f widens. -/
def wE (e f : Int) : Int := if e = 255 then 2047 else if e = 0 then (if f = 0 then 0 else (bl f : Int) + 873) else e + 896
/-- Its fraction. -/
def wF (e f : Int) : Int := if e = 0 then (if f = 0 then 0 else f * 2 ^ (53 - bl f) - 4503599627370496) else f * 536870912

theorem p23 {p : Nat} (h1 : 1 ≤ p) (h2 : p ≤ 23) : p = 1 ∨ p = 2 ∨ p = 3 ∨ p = 4 ∨ p = 5 ∨ p = 6 ∨ p = 7 ∨ p = 8 ∨ p = 9 ∨ p = 10 ∨ p = 11 ∨ p = 12 ∨ p = 13 ∨ p = 14 ∨ p = 15 ∨ p = 16 ∨ p = 17 ∨ p = 18 ∨ p = 19 ∨ p = 20 ∨ p = 21 ∨ p = 22 ∨ p = 23 := by omega

theorem sub_facts (f : Int) (h1 : 0 < f) (h2 : f < 8388608) :
    1 ≤ bl f ∧ bl f ≤ 23 ∧ 4503599627370496 ≤ f * 2 ^ (53 - bl f) ∧ f * 2 ^ (53 - bl f) < 9007199254740992 ∧ f * 2 ^ (53 - bl f) % 536870912 = 0 := by
  have a := bl_lo f h1
  have b := bl_hi f h1
  have c := bl_le f 23 h1 (by simpa using h2)
  have d : 1 ≤ bl f := by unfold bl; omega
  refine ⟨d, c, ?_⟩
  generalize bl f = p at *
  rcases p23 d c with rfl | rfl | rfl | rfl | rfl | rfl | rfl | rfl | rfl | rfl | rfl | rfl | rfl | rfl | rfl | rfl | rfl | rfl | rfl | rfl | rfl | rfl | rfl <;> simp at a b ⊢ <;> omega

theorem w_bd (e f : Int) (h1 : 0 ≤ e) (h2 : e ≤ 255) (h3 : 0 ≤ f) (h4 : f < 8388608) :
    0 ≤ wE e f ∧ wE e f ≤ 2047 ∧ 0 ≤ wF e f ∧ wF e f < 4503599627370496 ∧ wF e f % 536870912 = 0 := by
  unfold wE wF
  by_cases c1 : e = 255
  · simp [c1]; omega
  · by_cases c2 : e = 0
    · by_cases c3 : f = 0
      · simp [c2, c3]
      · obtain ⟨q1, q2, q3, q4, q5⟩ := sub_facts f (by omega) h4
        simp [c2, c3]; omega
    · simp [c1, c2]; omega

theorem wE_inf (f : Int) : wE 255 f = 2047 := rfl
theorem wF_nz (e f : Int) (h : e ≠ 0) : wF e f = f * 536870912 := by unfold wF; rw [if_neg h]
theorem wE_zero : wE 0 0 = 0 := rfl
theorem wF_zero : wF 0 0 = 0 := rfl
theorem wE_sub (f : Int) (h : f ≠ 0) : wE 0 f = (bl f : Int) + 873 := by unfold wE; rw [if_neg (by decide), if_pos rfl, if_neg h]
theorem wF_sub (f : Int) (h : f ≠ 0) : wF 0 f = f * 2 ^ (53 - bl f) - 4503599627370496 := by unfold wF; rw [if_pos rfl, if_neg h]
theorem wE_norm (e f : Int) (h : e ≠ 0) (h2 : e ≠ 255) : wE e f = e + 896 := by unfold wE; rw [if_neg h2, if_neg h]

/-- What was widened narrows back. -/
theorem nar_w (s e f : Int) (h1 : 0 ≤ e) (h2 : e ≤ 255) (h3 : 0 ≤ f) (h4 : f < 8388608) :
    nar s (wE e f) (wF e f) = some (s * 2147483648 + e * 8388608 + f) := by
  by_cases c1 : e = 255
  · subst c1
    rw [wE_inf, wF_nz _ _ (by decide)]
    unfold nar
    rw [if_neg (by omega), if_neg (by omega), if_pos rfl]
    exact congrArg some (by omega)
  · by_cases c2 : e = 0
    · subst c2
      by_cases c3 : f = 0
      · subst c3; rw [wE_zero, wF_zero]; unfold nar; simp
      · obtain ⟨q1, q2, q3, q4, q5⟩ := sub_facts f (by omega) h4
        rw [wE_sub f c3, wF_sub f c3]
        unfold nar
        rw [if_neg (by omega), if_neg (by omega), if_neg (by omega), if_neg (by omega), if_neg (by omega)]
        have e1 : (926 - ((bl f : Int) + 873)).toNat = 53 - bl f := by omega
        have hp : (0 : Int) < 2 ^ (53 - bl f) := Int.pow_pos (by decide)
        rw [e1, show f * 2 ^ (53 - bl f) - 4503599627370496 + 4503599627370496 = f * 2 ^ (53 - bl f) by omega, Int.mul_emod_left, if_neg (by simp), Int.mul_ediv_cancel _ (by omega)]
        exact congrArg some (by omega)
    · rw [wE_norm e f c2 c1, wF_nz e f c2]
      unfold nar
      rw [if_neg (by omega), if_pos (by omega)]
      exact congrArg some (by omega)

/-- What narrows was widened. -/
theorem w_nar (s e fr x : Int) (h1 : 0 ≤ e) (h2 : e ≤ 2047) (h3 : 0 ≤ fr) (h4 : fr < 4503599627370496) (h : nar s e fr = some x) :
    ∃ e' f', 0 ≤ e' ∧ e' ≤ 255 ∧ 0 ≤ f' ∧ f' < 8388608 ∧ x = s * 2147483648 + e' * 8388608 + f' ∧ wE e' f' = e ∧ wF e' f' = fr := by
  unfold nar at h
  by_cases c0 : fr % 536870912 ≠ 0
  · rw [if_pos c0] at h; cases h
  · rw [if_neg c0] at h
    by_cases c1 : 897 ≤ e ∧ e ≤ 1150
    · rw [if_pos c1] at h
      refine ⟨e - 896, fr / 536870912, by omega, by omega, by omega, by omega, by injection h with h; omega, ?_, ?_⟩
      · unfold wE; rw [if_neg (by omega), if_neg (by omega)]; omega
      · unfold wF; rw [if_neg (by omega)]; omega
    · rw [if_neg c1] at h
      by_cases c2 : e = 2047
      · rw [if_pos c2] at h
        refine ⟨255, fr / 536870912, by omega, by omega, by omega, by omega, by injection h with h; omega, ?_, ?_⟩
        · unfold wE; rw [if_pos rfl]; omega
        · unfold wF; rw [if_neg (by omega)]; omega
      · rw [if_neg c2] at h
        by_cases c3 : e = 0 ∧ fr = 0
        · rw [if_pos c3] at h
          refine ⟨0, 0, by omega, by omega, by omega, by omega, by injection h with h; omega, ?_, ?_⟩
          · unfold wE; simp; omega
          · unfold wF; simp; omega
        · rw [if_neg c3] at h
          by_cases c4 : e < 874 ∨ 896 < e
          · rw [if_pos c4] at h; cases h
          · rw [if_neg c4] at h
            by_cases c5 : (fr + 4503599627370496) % 2 ^ (926 - e).toNat ≠ 0
            · rw [if_pos c5] at h; cases h
            · rw [if_neg c5] at h
              injection h with h
              obtain ⟨p, hp⟩ : ∃ p : Nat, p = 53 - (926 - e).toNat := ⟨_, rfl⟩
              have hd : (926 - e).toNat = 53 - p := by omega
              have he : e = (p : Int) + 873 := by omega
              rw [hd] at h c5
              have key : 2 ^ (p - 1) ≤ (fr + 4503599627370496) / 2 ^ (53 - p) ∧ (fr + 4503599627370496) / 2 ^ (53 - p) < 2 ^ p ∧ (fr + 4503599627370496) / 2 ^ (53 - p) < 8388608 ∧ 0 < (fr + 4503599627370496) / 2 ^ (53 - p) ∧ (fr + 4503599627370496) / 2 ^ (53 - p) * 2 ^ (53 - p) = fr + 4503599627370496 := by
                have a : 1 ≤ p := by omega
                have b : p ≤ 23 := by omega
                clear hp hd he h
                rcases p23 a b with rfl | rfl | rfl | rfl | rfl | rfl | rfl | rfl | rfl | rfl | rfl | rfl | rfl | rfl | rfl | rfl | rfl | rfl | rfl | rfl | rfl | rfl | rfl <;> simp at c5 ⊢ <;> omega
              obtain ⟨k1, k2, k3, k4, k5⟩ := key
              have hb := bl_of _ p (by omega) k1 k2
              refine ⟨0, (fr + 4503599627370496) / 2 ^ (53 - p), by omega, by omega, by omega, k3, by omega, ?_, ?_⟩
              · unfold wE; rw [if_neg (by omega), if_pos rfl, if_neg (by omega), hb]; omega
              · unfold wF; rw [if_pos rfl, if_neg (by omega), hb, k5]; omega
end Go.Proofs.Qxb6608925a

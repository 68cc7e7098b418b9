/- f32Candidate: whole, and at what was widened; the law FnFloat32ExactIsTheInverseOfWidening. -/
import Derived.Test.Qxb6608925aCand
namespace Go.Proofs.Qxb6608925a
open Go.RowKit
set_option linter.unusedVariables false
variable {s e fr b f x : Int}
theorem Is64.mant' (h : Is64 s e fr b) : bits .or .u64 fr 4503599627370496 = fr + 4503599627370496 := by
  have := h.mant
  rw [h.frac] at this
  exact this
theorem Is64.sgn (h : Is64 s e fr b) : b / 9223372036854775808 = s := by obtain ⟨a1, a2, a3, a4, a5, a6, a7⟩ := h; omega

/-- Whatever the binary64: f32Candidate answers some binary32. -/
theorem cand_tot (h : Is64 s e fr b) (w : World) :
    Calls Try.prog 10 #[.int .u64 b] w fun v w' => ∃ c : Int, v = .returned (.int .u32 c) ∧ 0 ≤ c ∧ c < 4294967296 ∧ w' = w := by
  have h' := h
  obtain ⟨a1, a2, a3, a4, a5, a6, a7⟩ := h'
  by_cases c1 : e = 2047
  · subst c1
    refine (c_inf b fr _ w h.lo h.hi h.exp h.frac a5 a6 rfl).mono ?_
    rintro v w' ⟨rfl, rfl⟩
    exact ⟨_, rfl, (bits32_bd _ _ _).1, (bits32_bd _ _ _).2, rfl⟩
  · by_cases c2 : e = 0
    · subst c2
      by_cases c3 : fr = 0
      · subst c3
        refine (c_zero b _ w h.lo h.hi h.exp h.frac rfl).mono ?_
        rintro v w' ⟨rfl, rfl⟩
        exact ⟨_, rfl, by rw [h.sgn]; omega, by rw [h.sgn]; omega, rfl⟩
      · obtain ⟨t, T⟩ := tz_ex fr.toNat fr (by omega) (by omega)
        have T' := T
        obtain ⟨o, o0, o1, o2⟩ := T'
        have t0 := pow_lt64 fr o t o0 (by omega) o2
        have hp : (1 : Int) ≤ 2 ^ t := Int.pow_pos (by decide)
        have o3 : o ≤ fr := by
          have := Int.mul_le_mul_of_nonneg_left hp (Int.le_of_lt o0)
          omega
        refine (c_tiny b fr o t (bl o) w h.lo h.hi h.exp h.frac (by omega) a6 (by simpa using c3) T t0 (odd_part fr o t o2) o0 (by omega) rfl (by unfold bl; omega) (bl_le o 64 o0 (by simp; omega))).mono ?_
        rintro v w' ⟨rfl, rfl⟩
        exact ⟨0, rfl, by decide, by decide, rfl⟩
    · obtain ⟨t, T⟩ := tz_ex (fr + 4503599627370496).toNat (fr + 4503599627370496) (by omega) (by omega)
      have T' := T
      obtain ⟨o, o0, o1, o2⟩ := T'
      have t0 := pow_lt64 _ o t o0 (by omega) o2
      have hp : (1 : Int) ≤ 2 ^ t := Int.pow_pos (by decide)
      have o3 : o ≤ fr + 4503599627370496 := by
        have := Int.mul_le_mul_of_nonneg_left hp (Int.le_of_lt o0)
        omega
      have p1 : 1 ≤ bl o := by unfold bl; omega
      by_cases q : 24 < bl o ∨ (bl o ≤ 24 ∧ 127 < e - 1075 + t + bl o - 1) ∨ (bl o ≤ 24 ∧ e - 1075 + t + bl o - 1 ≤ 127 ∧ e - 1075 + t < -149)
      · refine (c_out b e fr _ o t (bl o) w h.lo h.hi h.exp h.frac h.mant' (by omega) (by omega) (by omega) (by omega) (by simpa using c1) (by simpa using c2) T t0 (odd_part _ o t o2) o0 (by omega) rfl p1 (bl_le o 64 o0 (by simp; omega)) q).mono ?_
        rintro v w' ⟨rfl, rfl⟩
        exact ⟨0, rfl, by decide, by decide, rfl⟩
      · by_cases q3 : -126 ≤ e - 1075 + t + bl o - 1
        · refine (c_big b e fr _ o _ t (bl o) w h.lo h.hi h.exp h.frac h.mant' (by omega) (by omega) (by omega) (by omega) (by simpa using c1) (by simpa using c2) T t0 (odd_part _ o t o2) o0 (by omega) rfl p1 (by omega) (by omega) (by omega) q3 rfl).mono ?_
          rintro v w' ⟨rfl, rfl⟩
          exact ⟨_, rfl, (bits32_bd _ _ _).1, (bits32_bd _ _ _).2, rfl⟩
        · refine (c_small b e fr _ o _ t (bl o) w h.lo h.hi h.exp h.frac h.mant' (by omega) (by omega) (by omega) (by omega) (by simpa using c1) (by simpa using c2) T t0 (odd_part _ o t o2) o0 (by omega) rfl p1 (by omega) (by omega) (by omega) (by omega) rfl).mono ?_
          rintro v w' ⟨rfl, rfl⟩
          exact ⟨_, rfl, (bits32_bd _ _ _).1, (bits32_bd _ _ _).2, rfl⟩

/-- At what was widened f32Candidate answers what it was widened from. -/
theorem cand_wid (h : Is32 s e f x) (w : World) :
    Calls Try.prog 10 #[.int .u64 (wid s e f)] w fun v w' => v = .returned (.int .u32 x) ∧ w' = w := by
  have h' := h
  obtain ⟨a1, a2, a3, a4, a5, a6, a7⟩ := h'
  have g := wid_is64 h
  by_cases c1 : e = 255
  · subst c1
    have ge := g.exp
    have gf := g.frac
    rw [wE_inf] at ge
    rw [wF_nz _ _ (by decide)] at gf
    refine c_inf _ (f * 536870912) _ w g.lo g.hi ge gf (by omega) (by omega) ?_
    show _ = _
    rw [g.sgn, join32 (s * 2147483648) _ 2147483648 31 (by decide) (by omega) (by omega) (by omega) (by omega) (by omega) (by omega), join32 _ _ 8388608 23 (by decide) (by omega) (by omega) (by omega) (by omega) (by omega) (by omega)]
    omega
  · by_cases c2 : e = 0
    · subst c2
      by_cases c3 : f = 0
      · subst c3
        refine c_zero _ _ w g.lo g.hi (by rw [g.exp, wE_zero]) (by rw [g.frac, wF_zero]) ?_
        show _ = _
        rw [g.sgn]; omega
      · obtain ⟨q1, q2, q3, q4, q5⟩ := sub_facts f (by omega) a6
        obtain ⟨k, T⟩ := tz_ex f.toNat f (by omega) (by omega)
        have T' := T
        obtain ⟨o, o0, o1, o2⟩ := T'
        have hb := bl_odd f o k o0 o2
        have p1 : 1 ≤ bl o := by unfold bl; omega
        have T2 := tz_mul f k (53 - bl f) T
        have o4 : f * 2 ^ (53 - bl f) = o * 2 ^ (k + (53 - bl f)) := by rw [Int.pow_add, ← Int.mul_assoc, ← o2]
        have o5 : o < 9007199254740992 := by
          have hp : (1 : Int) ≤ 2 ^ k := Int.pow_pos (by decide)
          have := Int.mul_le_mul_of_nonneg_left hp (Int.le_of_lt o0)
          omega
        have ge := g.exp
        have gf := g.frac
        have gm := g.mant'
        rw [wE_sub f c3] at ge
        rw [wF_sub f c3] at gf gm
        rw [show f * 2 ^ (53 - bl f) - 4503599627370496 + 4503599627370496 = f * 2 ^ (53 - bl f) by omega] at gm
        refine c_small _ _ _ _ o _ (k + (53 - bl f)) (bl o) w g.lo g.hi ge gf gm q3 q4 (by omega) (by omega) (by simp; omega) (by simp; omega) T2 (by omega) (odd_part _ o _ o4) o0 o5 rfl p1 (by omega) (by omega) (by omega) (by omega) ?_
        show _ = _
        rw [show ((bl f : Int) + 873 - 1075 + ((k + (53 - bl f) : Nat) : Int) + 149).toNat = k by omega, ← o2, g.sgn, IntKind.wrap_u64, show f % 18446744073709551616 % 4294967296 = f by omega, join32 (s * 2147483648) _ 2147483648 31 (by decide) (by omega) (by omega) (by omega) (by omega) (by omega) (by omega)]
        omega
    · obtain ⟨k, T⟩ := tz_ex (f + 8388608).toNat (f + 8388608) (by omega) (by omega)
      have T' := T
      obtain ⟨o, o0, o1, o2⟩ := T'
      have hb := bl_odd _ o k o0 o2
      have hb24 : bl (f + 8388608) = 24 := bl_of _ 24 (by decide) (by simp; omega) (by simp; omega)
      have p1 : 1 ≤ bl o := by unfold bl; omega
      have T2 := tz_mul _ k 29 T
      have o4 : (f + 8388608) * 2 ^ 29 = o * 2 ^ (k + 29) := by rw [Int.pow_add, ← Int.mul_assoc, ← o2]
      have o5 : o < 9007199254740992 := by
        have hp : (1 : Int) ≤ 2 ^ k := Int.pow_pos (by decide)
        have := Int.mul_le_mul_of_nonneg_left hp (Int.le_of_lt o0)
        omega
      have ge := g.exp
      have gf := g.frac
      have gm := g.mant'
      rw [wE_norm e f c2 c1] at ge
      rw [wF_nz e f c2] at gf gm
      rw [show f * 536870912 + 4503599627370496 = (f + 8388608) * 2 ^ 29 by omega] at gm
      refine c_big _ _ _ _ o _ (k + 29) (bl o) w g.lo g.hi ge gf gm (by omega) (by omega) (by omega) (by omega) (by simp; omega) (by simp; omega) T2 (by omega) (odd_part _ o _ o4) o0 o5 rfl p1 (by omega) (by omega) (by omega) (by omega) ?_
      show _ = _
      have u1 : bits .and .u32 (IntKind.u64.wrap (o * 2 ^ (24 - bl o)) % 4294967296) 8388607 = f := by
        rw [show 24 - bl o = k by omega, ← o2, IntKind.wrap_u64, show (f + 8388608) % 18446744073709551616 % 4294967296 = f + 8388608 by omega, mask32 _ 8388607 8388608 23 (by decide) (by decide) (by decide) (by omega) (by omega)]
        omega
      rw [u1, g.sgn, show e + 896 - 1075 + ((k + 29 : Nat) : Int) + (bl o : Int) - 1 + 127 = e by omega, join32 (s * 2147483648) _ 2147483648 31 (by decide) (by omega) (by omega) (by omega) (by omega) (by omega) (by omega), join32 _ _ 8388608 23 (by decide) (by omega) (by omega) (by omega) (by omega) (by omega) (by omega)]
      omega

/-! ### The law -/
/-- Where a binary32 widens to b. -/
theorem walk3yes (h : Is32 s e f x) (w : World) :
    Calls Try.prog 3 #[.int .u64 (wid s e f)] w fun v w' => v = .returned (.bool true) ∧ w' = w := by
  have h' := h
  obtain ⟨a1, a2, a3, a4, a5, a6, a7⟩ := h'
  have H : Hid (Is32 s e f x) := h
  have G : Hid (Is64 s (wE e f) (wF e f) (wid s e f)) := wid_is64 h
  have N : Hid (nar s (wE e f) (wF e f) = some x) := by show _ = _; rw [nar_w s e f a3 a4 a5 a6, a7]
  clear a1 a2 a3 a4 a5 a6 a7 h
  go_enter Try.func3, Try.ntmps3
  go_wp2_with (first | (go_at_call 9; refine (zz_yes G.out N.out _).mono ?_; rintro v w' ⟨rfl, rfl⟩) | (go_at_call 10; refine (cand_wid H.out _).mono ?_; rintro v w' ⟨rfl, rfl⟩) | (go_at_call 11; refine (wid_any H.out _).mono ?_; rintro v w' ⟨rfl, rfl⟩))
  go_ret
  exact ⟨rfl, rfl⟩
/-- What was widened has the fields that it was widened to. -/
theorem is64_one {s e fr s' e' fr' b : Int} (h : Is64 s e fr b) (k : Is64 s' e' fr' b) : s = s' ∧ e = e' ∧ fr = fr' := by
  obtain ⟨a1, a2, a3, a4, a5, a6, a7⟩ := h
  obtain ⟨b1, b2, b3, b4, b5, b6, b7⟩ := k
  omega
/-- Where none does. -/
theorem wid_ne (g : Is64 s e fr b) (hn : nar s e fr = none) {s' e' f' c : Int} (h : Is32 s' e' f' c) : (wid s' e' f' == b) = false := by
  rw [beq_eq_false_iff_ne]
  intro hb
  have k := wid_is64 h
  rw [hb] at k
  obtain ⟨rfl, rfl, rfl⟩ := is64_one g k
  rw [nar_w _ _ _ h.e0 h.e1 h.f0 h.f1] at hn
  cases hn
theorem walk3no (g : Is64 s e fr b) (hn : nar s e fr = none) (w : World) :
    Calls Try.prog 3 #[.int .u64 b] w fun v w' => v = .returned (.bool true) ∧ w' = w := by
  have G : Hid (Is64 s e fr b) := g
  have N : Hid (nar s e fr = none) := hn
  clear g hn
  go_enter Try.func3, Try.ntmps3
  go_wp2_with fail
  refine (zz_no G.out N.out _).mono ?_
  rintro v w' ⟨rfl, rfl⟩
  go_wp2_with fail
  refine (cand_tot G.out _).mono ?_
  rintro v w' ⟨c, rfl, c0, c1, rfl⟩
  have k := wid_ne G.out N.out (is32_of c c0 c1)
  have K : Hid (Is32 (c / 2147483648) (c / 8388608 % 256) (c % 8388608) c) := is32_of c c0 c1
  go_wp2_with fail
  refine (wid_any K.out _).mono ?_
  rintro v w' ⟨rfl, rfl⟩
  go_wp2
  go_ret
  exact ⟨rfl, rfl⟩
theorem walk3 (b : Int) (w0 : (Lit.int .u64 b).wf = true) (w : World) :
    Calls Try.prog 3 #[.int .u64 b] w fun v w' => v = .returned (.bool true) ∧ w' = w := by
  have g := is64_of b (bounds64 w0).1 (bounds64 w0).2
  have g' := g
  obtain ⟨a1, a2, a3, a4, a5, a6, a7⟩ := g'
  cases hn : nar (b / 9223372036854775808) (b / 4503599627370496 % 2048) (b % 4503599627370496) with
  | none => exact walk3no g hn w
  | some x =>
    obtain ⟨e', f', b1, b2, b3, b4, b5, b6, b7⟩ := w_nar _ _ _ x a3 a4 a5 a6 hn
    have hb : wid (b / 9223372036854775808) e' f' = b := by unfold wid; rw [b6, b7]; exact a7.symm
    have c := walk3yes (s := b / 9223372036854775808) (e := e') (f := f') (x := x) ⟨a1, a2, b1, b2, b3, b4, b5⟩ w
    rw [hb] at c
    exact c
end Go.Proofs.Qxb6608925a

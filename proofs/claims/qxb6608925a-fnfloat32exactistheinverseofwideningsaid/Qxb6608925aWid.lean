/- The walk of f32Widen: it answers as the plain 'wid' does. -/
import Derived.Test.Qxb6608925aBitLen
import Derived.Test.Qxb6608925aNar
namespace Go.Proofs.Qxb6608925a
open Go.RowKit
set_option linter.unusedVariables false

/-! ### The ways of function 11, each under its tests in the walk's own forms -/
theorem w_inf (x f r : Int) (w : World) (h1 : 0 ≤ x) (h2 : x < 4294967296) (R1 : bits .and .u32 (x / 8388608) 255 = 255) (R2 : bits .and .u32 x 8388607 = f) (f0 : 0 ≤ f) (f1 : f < 8388608)
    (H : Hid (bits .or .u64 (bits .or .u64 (x / 2147483648 * 9223372036854775808) 9218868437227405312) (f * 536870912) = r)) :
    Calls Try.prog 11 #[.int .u32 x] w fun e w' => e = .returned (.int .u64 r) ∧ w' = w := by
  go_enter Try.func11, Try.ntmps11
  go_wp2
  go_ret
  exact ⟨ret_u64 H.out, rfl⟩
theorem w_zero (x r : Int) (w : World) (h1 : 0 ≤ x) (h2 : x < 4294967296) (R1 : bits .and .u32 (x / 8388608) 255 = 0) (R2 : bits .and .u32 x 8388607 = 0)
    (H : Hid (x / 2147483648 * 9223372036854775808 = r)) :
    Calls Try.prog 11 #[.int .u32 x] w fun e w' => e = .returned (.int .u64 r) ∧ w' = w := by
  go_enter Try.func11, Try.ntmps11
  go_wp2
  go_ret
  exact ⟨ret_u64 H.out, rfl⟩
theorem w_sub (x f r : Int) (p : Nat) (w : World) (h1 : 0 ≤ x) (h2 : x < 4294967296) (R1 : bits .and .u32 (x / 8388608) 255 = 0) (R2 : bits .and .u32 x 8388607 = f) (f0 : 0 < f) (f1 : f < 8388608) (k1 : (f == 0) = false)
    (hp : bl f = p) (p0 : 1 ≤ p) (p1 : p ≤ 23)
    (H : Hid (bits .or .u64 (bits .or .u64 (x / 2147483648 * 9223372036854775808) (((p : Int) - 150 + 1023) * 4503599627370496)) (bits .and .u64 (IntKind.u64.wrap (f * 2 ^ (53 - p))) 4503599627370495) = r)) :
    Calls Try.prog 11 #[.int .u32 x] w fun e w' => e = .returned (.int .u64 r) ∧ w' = w := by
  go_enter Try.func11, Try.ntmps11
  go_wp2_with (go_at_call 16; refine (bitlen_any _ f0 (by omega) _).mono ?_; rintro e w' ⟨rfl, rfl⟩)
  go_ret
  exact ⟨ret_u64 H.out, rfl⟩
theorem w_norm (x e f r : Int) (w : World) (h1 : 0 ≤ x) (h2 : x < 4294967296) (R1 : bits .and .u32 (x / 8388608) 255 = e) (R2 : bits .and .u32 x 8388607 = f) (f0 : 0 ≤ f) (f1 : f < 8388608) (e0 : 0 < e) (e1 : e < 255) (k1 : (e == 0) = false) (k2 : (e == 255) = false)
    (H : Hid (bits .or .u64 (bits .or .u64 (x / 2147483648 * 9223372036854775808) ((e - 127 + 1023) * 4503599627370496)) (f * 536870912) = r)) :
    Calls Try.prog 11 #[.int .u32 x] w fun e w' => e = .returned (.int .u64 r) ∧ w' = w := by
  go_enter Try.func11, Try.ntmps11
  go_wp2
  go_ret
  exact ⟨ret_u64 H.out, rfl⟩

/-! ### The fields of a binary32 -/
/-- x is the binary32 of the fields s, e, f. -/
structure Is32 (s e f x : Int) : Prop where
  s0 : 0 ≤ s
  s1 : s ≤ 1
  e0 : 0 ≤ e
  e1 : e ≤ 255
  f0 : 0 ≤ f
  f1 : f < 8388608
  eq : x = s * 2147483648 + e * 8388608 + f

theorem is32_of (x : Int) (h1 : 0 ≤ x) (h2 : x < 4294967296) : Is32 (x / 2147483648) (x / 8388608 % 256) (x % 8388608) x :=
  ⟨by omega, by omega, by omega, by omega, by omega, by omega, by omega⟩

variable {s e f x : Int}
theorem Is32.lo (h : Is32 s e f x) : 0 ≤ x := by obtain ⟨a1, a2, a3, a4, a5, a6, a7⟩ := h; omega
theorem Is32.hi (h : Is32 s e f x) : x < 4294967296 := by obtain ⟨a1, a2, a3, a4, a5, a6, a7⟩ := h; omega
theorem Is32.exp (h : Is32 s e f x) : bits .and .u32 (x / 8388608) 255 = e := by
  have l := h.lo; have u := h.hi; obtain ⟨a1, a2, a3, a4, a5, a6, a7⟩ := h
  rw [mask32 _ 255 256 8 (by decide) (by decide) (by decide) (by omega) (by omega)]; omega
theorem Is32.frac (h : Is32 s e f x) : bits .and .u32 x 8388607 = f := by
  have l := h.lo; have u := h.hi; obtain ⟨a1, a2, a3, a4, a5, a6, a7⟩ := h
  rw [mask32 _ 8388607 8388608 23 (by decide) (by decide) (by decide) (by omega) (by omega)]; omega
theorem Is32.sign (h : Is32 s e f x) : x / 2147483648 = s := by obtain ⟨a1, a2, a3, a4, a5, a6, a7⟩ := h; omega

/-- The binary64 to which the binary32 of the fields s, e, f widens. -/
def wid (s e f : Int) : Int := s * 9223372036854775808 + wE e f * 4503599627370496 + wF e f
theorem wid_is64 (h : Is32 s e f x) : Is64 s (wE e f) (wF e f) (wid s e f) := by
  obtain ⟨a1, a2, a3, a4, a5, a6, a7⟩ := h
  obtain ⟨b1, b2, b3, b4, b5⟩ := w_bd e f a3 a4 a5 a6
  exact ⟨a1, a2, b1, b2, b3, b4, rfl⟩

/-- f32Widen answers as 'wid' does. -/
theorem wid_any (h : Is32 s e f x) (w : World) :
    Calls Try.prog 11 #[.int .u32 x] w fun v w' => v = .returned (.int .u64 (wid s e f)) ∧ w' = w := by
  have h' := h
  obtain ⟨a1, a2, a3, a4, a5, a6, a7⟩ := h'
  by_cases c1 : e = 255
  · subst c1
    refine w_inf x f _ w h.lo h.hi h.exp h.frac a5 a6 ?_
    show _ = _
    unfold wid
    rw [wE_inf, wF_nz _ _ (by decide), h.sign, join64 (s * 9223372036854775808) _ 9223372036854775808 63 (by decide) (by omega) (by omega) (by omega) (by omega) (by omega) (by omega), join64 _ _ 4503599627370496 52 (by decide) (by omega) (by omega) (by omega) (by omega) (by omega) (by omega)]
    omega
  · by_cases c2 : e = 0
    · subst c2
      by_cases c3 : f = 0
      · subst c3
        refine w_zero x _ w h.lo h.hi h.exp h.frac ?_
        show _ = _
        unfold wid
        rw [wE_zero, wF_zero, h.sign]
        omega
      · obtain ⟨q1, q2, q3, q4, q5⟩ := sub_facts f (by omega) a6
        refine w_sub x f _ (bl f) w h.lo h.hi h.exp h.frac (by omega) a6 (by simpa using c3) rfl q1 q2 ?_
        show _ = _
        unfold wid
        have u1 : IntKind.u64.wrap (f * 2 ^ (53 - bl f)) = f * 2 ^ (53 - bl f) := by rw [IntKind.wrap_u64]; omega
        have u2 : bits .and .u64 (f * 2 ^ (53 - bl f)) 4503599627370495 = f * 2 ^ (53 - bl f) - 4503599627370496 := by
          rw [mask64 _ 4503599627370495 4503599627370496 52 (by decide) (by decide) (by decide) (by omega) (by omega)]; omega
        rw [wE_sub f c3, wF_sub f c3, h.sign, u1, u2, join64 (s * 9223372036854775808) _ 9223372036854775808 63 (by decide) (by omega) (by omega) (by omega) (by omega) (by omega) (by omega), join64 _ _ 4503599627370496 52 (by decide) (by omega) (by omega) (by omega) (by omega) (by omega) (by omega)]
        omega
    · refine w_norm x e f _ w h.lo h.hi h.exp h.frac a5 a6 (by omega) (by omega) (by simpa using c2) (by simpa using c1) ?_
      show _ = _
      unfold wid
      rw [wE_norm e f c2 c1, wF_nz e f c2, h.sign, join64 (s * 9223372036854775808) _ 9223372036854775808 63 (by decide) (by omega) (by omega) (by omega) (by omega) (by omega) (by omega), join64 _ _ 4503599627370496 52 (by decide) (by omega) (by omega) (by omega) (by omega) (by omega) (by omega)]
      omega

/-! ### Narrowing, yes and no -/
theorem zz_yes {s e fr b x : Int} (h : Is64 s e fr b) (hn : nar s e fr = some x) (w : World) :
    Calls Try.prog 9 #[.int .u64 b] w fun v w' => v = .returned (.tuple #[.int .u32 x, .bool true]) ∧ w' = w := by
  have c := zznar_any h w
  rw [hn] at c
  exact c
theorem zz_no {s e fr b : Int} (h : Is64 s e fr b) (hn : nar s e fr = none) (w : World) :
    Calls Try.prog 9 #[.int .u64 b] w fun v w' => v = .returned (.tuple #[.int .u32 0, .bool false]) ∧ w' = w := by
  have c := zznar_any h w
  rw [hn] at c
  exact c

/-! ### The law FnFloat32ExactKeepsEverySingleAndRefusesItsNeighbour -/
theorem walk4of (h : Is32 s e f x) (w : World) :
    Calls Try.prog 4 #[.int .u32 x] w fun v w' => v = .returned (.bool true) ∧ w' = w := by
  have h' := h
  obtain ⟨a1, a2, a3, a4, a5, a6, a7⟩ := h'
  obtain ⟨b1, b2, b3, b4, b5⟩ := w_bd e f a3 a4 a5 a6
  have g := wid_is64 h
  have g' : Is64 s (wE e f) (wF e f + 1) (wid s e f + 1) := ⟨a1, a2, b1, b2, by omega, by omega, by have := g.eq; omega⟩
  have n1 : nar s (wE e f) (wF e f) = some x := by rw [nar_w s e f a3 a4 a5 a6, a7]
  have n2 : nar s (wE e f) (wF e f + 1) = none := by unfold nar; rw [if_pos (by omega)]
  have k1 : bits .xor .u64 (wid s e f) 1 = wid s e f + 1 := xor64_one _ g.lo g.hi (by have := g.eq; omega)
  have H : Hid (Is32 s e f x) := h
  have G : Hid (Is64 s (wE e f) (wF e f) (wid s e f)) := g
  have G' : Hid (Is64 s (wE e f) (wF e f + 1) (wid s e f + 1)) := g'
  have N1 : Hid (nar s (wE e f) (wF e f) = some x) := n1
  have N2 : Hid (nar s (wE e f) (wF e f + 1) = none) := n2
  clear n1 n2 g g' a1 a2 a3 a4 a5 a6 a7 b1 b2 b3 b4 b5 h
  go_enter Try.func4, Try.ntmps4
  go_wp2_with fail
  refine (wid_any H.out _).mono ?_
  rintro v w' ⟨rfl, rfl⟩
  go_wp2_with fail
  refine (zz_yes G.out N1.out _).mono ?_
  rintro v w' ⟨rfl, rfl⟩
  go_wp2_with fail
  refine (zz_no G'.out N2.out _).mono ?_
  rintro v w' ⟨rfl, rfl⟩
  go_wp2
  go_ret
  exact ⟨rfl, rfl⟩
theorem bounds32 {a : Int} (h : (Lit.int .u32 a).wf = true) : 0 ≤ a ∧ a < 4294967296 := by
  simp [Lit.wf, IntKind.min, IntKind.max, IntKind.bits, IntKind.signed] at h
  omega
theorem bounds64 {a : Int} (h : (Lit.int .u64 a).wf = true) : 0 ≤ a ∧ a < 18446744073709551616 := by
  simp [Lit.wf, IntKind.min, IntKind.max, IntKind.bits, IntKind.signed] at h
  omega
theorem walk4 (x : Int) (w0 : (Lit.int .u32 x).wf = true) (w : World) :
    Calls Try.prog 4 #[.int .u32 x] w fun v w' => v = .returned (.bool true) ∧ w' = w :=
  walk4of (is32_of x (bounds32 w0).1 (bounds32 w0).2) w
end Go.Proofs.Qxb6608925a

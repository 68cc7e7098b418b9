import Derived.Test.Qxb6608925aRows
import Derived.WalkKit
import Derived.LoopTactic
import Derived.Laws.BitsAllLaws
namespace Go.Proofs.Qxb6608925a
open Go.RowKit
set_option linter.unusedVariables false

/-- The plain function of IsQuietNaN: the six bits 9 to 14 are all ones. -/
def qB (x : Int) : Bool := bits .and .u16 x 32256 == 32256

theorem isq_any (x : Int) (w : World) :
    Calls Try.prog 12 #[.int .u16 x] w fun e w' => e = .returned (.bool (qB x)) ∧ w' = w := by
  go_enter Try.func12, Try.ntmps12
  go_wp2
  go_ret
  exact ⟨rfl, rfl⟩

/-! ### The plain law: no Go in sight -/
theorem qB_nat (X : Nat) (h : X < 65536) : qB (X : Int) = (X &&& 32256 == 32256) := by
  unfold qB
  have e := u16_and_nat X 32256 h (by decide)
  rw [show ((32256 : Nat) : Int) = 32256 from rfl] at e
  rw [e, Bool.eq_iff_iff]
  simp only [beq_iff_eq]
  omega
theorem bounds16 {a : Int} (h : (Lit.int .u16 a).wf = true) : 0 ≤ a ∧ a < 65536 := by
  simp [Lit.wf, IntKind.min, IntKind.max, IntKind.bits, IntKind.signed] at h
  omega
theorem land_lt16 (X c : Nat) (h : X < 65536) : X &&& c < 65536 := Nat.lt_of_le_of_lt Nat.and_le_left h
theorem lxor_lt16 (X c : Nat) (h : X < 65536) (hc : c < 65536) : X ^^^ c < 65536 := Nat.xor_lt_two_pow (n := 16) h hc
theorem lor_lt16 (X c : Nat) (h : X < 65536) (hc : c < 65536) : X ||| c < 65536 := Nat.or_lt_two_pow (n := 16) h hc

/-- A flip outside the six bits turns nothing. -/
theorem q_xor (a c : Int) (h1 : 0 ≤ a) (h2 : a < 65536) (h3 : 0 ≤ c) (h4 : c < 65536) (hm : c.toNat &&& 32256 = 0) : qB (bits .xor .u16 a c) = qB a := by
  obtain ⟨X, rfl⟩ := Int.eq_ofNat_of_zero_le h1
  obtain ⟨C, rfl⟩ := Int.eq_ofNat_of_zero_le h3
  have hX : X < 65536 := by omega
  have hC : C < 65536 := by omega
  rw [u16_xor_nat X C hX hC, qB_nat _ (lxor_lt16 X C hX hC), qB_nat X hX, Nat.and_xor_distrib_right, show C &&& 32256 = 0 from hm, Nat.xor_zero]
theorem q_or (a : Int) (h1 : 0 ≤ a) (h2 : a < 65536) : qB (bits .or .u16 a 32256) = true := by
  obtain ⟨X, rfl⟩ := Int.eq_ofNat_of_zero_le h1
  have hX : X < 65536 := by omega
  have e := u16_or_nat X 32256 hX (by decide)
  rw [show ((32256 : Nat) : Int) = 32256 from rfl] at e
  rw [e, qB_nat _ (lor_lt16 X _ hX (by decide)), beq_iff_eq]
  apply Nat.eq_of_testBit_eq
  intro i
  simp only [Nat.testBit_and, Nat.testBit_or]
  cases X.testBit i <;> simp
/-- One of the six bits cleared: no. -/
theorem q_andNot (a c : Int) (h1 : 0 ≤ a) (h2 : a < 65536) (h3 : 0 ≤ c) (h4 : c < 65536) (hm : (65535 - c.toNat) &&& 32256 < 32256) : qB (bits .andNot .u16 a c) = false := by
  obtain ⟨X, rfl⟩ := Int.eq_ofNat_of_zero_le h1
  obtain ⟨C, rfl⟩ := Int.eq_ofNat_of_zero_le h3
  have hX : X < 65536 := by omega
  have hC : C < 65536 := by omega
  rw [u16_andNot_nat X C hX hC, qB_nat _ (land_lt16 X _ hX), Nat.and_assoc, beq_eq_false_iff_ne]
  have : X &&& ((65535 - C) &&& 32256) ≤ (65535 - C) &&& 32256 := Nat.and_le_right
  rw [Int.toNat_natCast] at hm
  omega
theorem or_bd (a : Int) (h1 : 0 ≤ a) (h2 : a < 65536) : 0 ≤ bits .or .u16 a 32256 ∧ bits .or .u16 a 32256 < 65536 := by
  obtain ⟨X, rfl⟩ := Int.eq_ofNat_of_zero_le h1
  have hX : X < 65536 := by omega
  have e := u16_or_nat X 32256 hX (by decide)
  rw [show ((32256 : Nat) : Int) = 32256 from rfl] at e
  have := lor_lt16 X 32256 hX (by decide)
  rw [e]; omega

theorem walk5 (a0 : Int) (w0 : (Lit.int .u16 a0).wf = true) (w : World) :
    Calls Try.prog 5 #[.int .u16 a0] w fun e w' => e = .returned (.bool true) ∧ w' = w := by
  obtain ⟨g1, g2⟩ := bounds16 w0
  obtain ⟨g3, g4⟩ := or_bd a0 g1 g2
  have k1 := q_xor a0 33279 g1 g2 (by decide) (by decide) (by decide)
  have k2 := q_or a0 g1 g2
  have k3 := q_andNot _ 512 g3 g4 (by decide) (by decide) (by decide)
  have k10 := q_andNot a0 1024 g1 g2 (by decide) (by decide) (by decide)
  have k11 := q_andNot a0 2048 g1 g2 (by decide) (by decide) (by decide)
  have k12 := q_andNot a0 4096 g1 g2 (by decide) (by decide) (by decide)
  have k13 := q_andNot a0 8192 g1 g2 (by decide) (by decide) (by decide)
  have k14 := q_andNot a0 16384 g1 g2 (by decide) (by decide) (by decide)
  clear g1 g2 g3 g4
  go_enter Try.func5, Try.ntmps5
  go_wp2_with (go_at_call 12; refine (isq_any _ _).mono ?_; rintro e w' ⟨rfl, rfl⟩)
  go_loop [5] (fun k => ∃ n : Nat, 10 ≤ n ∧ n ≤ 15 ∧ k = .int .u64 n) (fun k => 15 - (intOf k).toNat)
  case atStart => exact ⟨10, by omega, by omega, rfl⟩
  case round =>
    obtain ⟨n, h1, h2, rfl⟩ := hrel
    have h3 : n = 10 ∨ n = 11 ∨ n = 12 ∨ n = 13 ∨ n = 14 ∨ n = 15 := by omega
    clear h1 h2
    rcases h3 with rfl | rfl | rfl | rfl | rfl | rfl
    all_goals go_wp2_with (go_at_call 12; refine (isq_any _ _).mono ?_; rintro e w' ⟨rfl, rfl⟩)
    · exact ⟨⟨11, by decide, by decide, rfl⟩, by decide⟩
    · exact ⟨⟨12, by decide, by decide, rfl⟩, by decide⟩
    · exact ⟨⟨13, by decide, by decide, rfl⟩, by decide⟩
    · exact ⟨⟨14, by decide, by decide, rfl⟩, by decide⟩
    · exact ⟨⟨15, by decide, by decide, rfl⟩, by decide⟩
    · go_ret
      exact ⟨rfl, rfl⟩

/-! ### The second law -/
/-- The exponent's five bits are all ones. -/
theorem q_split (a : Int) (h1 : 0 ≤ a) (h2 : a < 65536) (he : (bits .and .u16 a 31744 == 31744) = true) :
    (bits .and .u16 a 512 != 0) = qB a ∧ qB (bits .xor .u16 a 512) = !qB a := by
  obtain ⟨X, rfl⟩ := Int.eq_ofNat_of_zero_le h1
  have hX : X < 65536 := by omega
  have e1 := u16_and_nat X 31744 hX (by decide)
  rw [show ((31744 : Nat) : Int) = 31744 from rfl] at e1
  have e2 := u16_and_nat X 512 hX (by decide)
  rw [show ((512 : Nat) : Int) = 512 from rfl] at e2
  have e3 := u16_xor_nat X 512 hX (by decide)
  rw [show ((512 : Nat) : Int) = 512 from rfl] at e3
  rw [e1, beq_iff_eq] at he
  have he' : X &&& 31744 = 31744 := by omega
  have hs : X &&& 32256 = (X &&& 31744) ||| (X &&& 512) := by rw [← Nat.and_or_distrib_left, show (31744 : Nat) ||| 512 = 32256 from by decide]
  have h5 : X &&& 512 = X / 512 % 2 * 512 := nat_bit 9 X
  rw [e2, e3, qB_nat _ (lxor_lt16 X 512 hX (by decide)), qB_nat X hX, Nat.and_xor_distrib_right, hs, he']
  have h6 : X / 512 % 2 = 0 ∨ X / 512 % 2 = 1 := by omega
  rcases h6 with h6 | h6
  · rw [h5, h6]; decide
  · rw [h5, h6]; decide
theorem q_none (a : Int) (h1 : 0 ≤ a) (h2 : a < 65536) (he : (bits .and .u16 a 31744 == 31744) = false) :
    qB a = false ∧ qB (bits .xor .u16 a 512) = false := by
  obtain ⟨X, rfl⟩ := Int.eq_ofNat_of_zero_le h1
  have hX : X < 65536 := by omega
  have e1 := u16_and_nat X 31744 hX (by decide)
  rw [show ((31744 : Nat) : Int) = 31744 from rfl] at e1
  have e3 := u16_xor_nat X 512 hX (by decide)
  rw [show ((512 : Nat) : Int) = 512 from rfl] at e3
  rw [e1, beq_eq_false_iff_ne] at he
  have he' : ¬ X &&& 31744 = 31744 := by omega
  have key : ∀ Y : Nat, Y &&& 32256 = 32256 → Y &&& 31744 = 31744 := by
    intro Y hY
    have : Y &&& 31744 = (Y &&& 32256) &&& 31744 := by rw [Nat.and_assoc, show (32256 : Nat) &&& 31744 = 31744 from by decide]
    rw [this, hY]; decide
  rw [e3, qB_nat _ (lxor_lt16 X 512 hX (by decide)), qB_nat X hX, beq_eq_false_iff_ne, beq_eq_false_iff_ne]
  refine ⟨fun h => he' (key X h), fun h => he' ?_⟩
  have := key _ h
  rw [Nat.and_xor_distrib_right, show 512 &&& 31744 = 0 from rfl, Nat.xor_zero] at this
  exact this

theorem walk6 (a0 : Int) (w0 : (Lit.int .u16 a0).wf = true) (w : World) :
    Calls Try.prog 6 #[.int .u16 a0] w fun e w' => e = .returned (.bool true) ∧ w' = w := by
  obtain ⟨g1, g2⟩ := bounds16 w0
  have k1 := q_xor a0 32768 g1 g2 (by decide) (by decide) (by decide)
  cases he : (bits .and .u16 a0 31744 == 31744)
  · obtain ⟨k2, k3⟩ := q_none a0 g1 g2 he
    clear g1 g2 w0
    go_enter Try.func6, Try.ntmps6
    go_wp2_with (go_at_call 12; refine (isq_any _ _).mono ?_; rintro e w' ⟨rfl, rfl⟩)
    go_ret
    exact ⟨rfl, rfl⟩
  · obtain ⟨k2, k3⟩ := q_split a0 g1 g2 he
    clear g1 g2 w0
    cases hq : qB a0
    · rw [hq] at k1 k2 k3
      go_enter Try.func6, Try.ntmps6
      go_wp2_with (go_at_call 12; refine (isq_any _ _).mono ?_; rintro e w' ⟨rfl, rfl⟩)
      go_ret
      exact ⟨rfl, rfl⟩
    · rw [hq] at k1 k2 k3
      go_enter Try.func6, Try.ntmps6
      go_wp2_with (go_at_call 12; refine (isq_any _ _).mono ?_; rintro e w' ⟨rfl, rfl⟩)
      go_ret
      exact ⟨rfl, rfl⟩
end Go.Proofs.Qxb6608925a

import Derived.Test.Qxb6613619aRows
import Derived.Test.Qxb6613619aDaysPlain
import Derived.WalkKit
import Derived.LoopTactic
import Derived.RowKit3
namespace Go.Proofs.Qxb6613619a
open Go.RowKit
set_option linter.unusedVariables false
theorem ret_i64 {a b : Int} (h : a = b) : Ending.returned (.int .i64 a) = .returned (.int .i64 b) := by rw [h]
theorem ret_b {a b : Bool} (h : a = b) : Ending.returned (.bool a) = .returned (.bool b) := by rw [h]

theorem day_any (y : Int) (h1 : 1 ≤ y) (h2 : y ≤ 18014398509481985) (w : World) :
    Calls Try.prog 7 #[.int .i64 y] w fun e w' => e = .returned (.int .i64 (dz y)) ∧ w' = w := by
  go_enter Try.func7, Try.ntmps7
  go_wp2
  go_ret
  exact ⟨rfl, rfl⟩

theorem lp_a (y : Int) (h1 : y % 4 = 0) (h2 : y % 100 = 0) : (y % 400 == 0) = lpB y := by
  unfold lpB; rw [Bool.eq_iff_iff]; simp; omega
theorem lp_b (y : Int) (h1 : y % 4 = 0) (h2 : ¬ y % 100 = 0) : true = lpB y := by
  unfold lpB; rw [Bool.eq_iff_iff]; simp; omega
theorem lp_c (y : Int) (h1 : ¬ y % 4 = 0) : false = lpB y := by
  unfold lpB; rw [Bool.eq_iff_iff]; simp; omega
theorem leap_any (y : Int) (h1 : 1 ≤ y) (h2 : y ≤ 18014398509481985) (w : World) :
    Calls Try.prog 5 #[.int .i64 y] w fun e w' => e = .returned (.bool (lpB y)) ∧ w' = w := by
  go_enter Try.func5, Try.ntmps5
  go_wp2
  · go_ret
    exact ⟨ret_b (lp_a y ‹_› ‹_›), rfl⟩
  · go_ret
    exact ⟨ret_b (lp_b y ‹_› ‹_›), rfl⟩
  · go_ret
    exact ⟨ret_b (lp_c y ‹_›), rfl⟩

theorem zzday_any (y : Int) (h1 : 1 ≤ y) (h2 : y ≤ 18014398509481985) (w : World) :
    Calls Try.prog 6 #[.int .i64 y] w fun e w' => e = .returned (.int .i64 (dz y)) ∧ w' = w := by
  go_enter Try.func6, Try.ntmps6
  go_wp2_with (go_at_call 7; refine (day_any _ h1 h2 _).mono ?_; rintro e w' ⟨rfl, rfl⟩)
  go_ret
  exact ⟨rfl, rfl⟩

/-! ### The first law -/
theorem walk3in (y : Int) (h1 : 1 ≤ y) (h2 : y ≤ 18014398509481984) (w : World) :
    Calls Try.prog 3 #[.int .i64 y] w fun e w' => e = .returned (.bool true) ∧ w' = w := by
  obtain ⟨b1, b2⟩ := dz_bd y h1 (by omega)
  have k1 := dz_one
  cases hl : lpB y
  · have k2 := dz_no y hl
    go_enter Try.func3, Try.ntmps3
    go_wp2_with (first | (go_at_call 5; refine (leap_any _ (by omega) (by omega) _).mono ?_; rintro e w' ⟨rfl, rfl⟩) | (go_at_call 6; refine (zzday_any _ (by omega) (by omega) _).mono ?_; rintro e w' ⟨rfl, rfl⟩))
    go_ret
    exact ⟨ret_b (sub_same _ _), rfl⟩
  · have k2 := dz_yes y hl
    go_enter Try.func3, Try.ntmps3
    go_wp2_with (first | (go_at_call 5; refine (leap_any _ (by omega) (by omega) _).mono ?_; rintro e w' ⟨rfl, rfl⟩) | (go_at_call 6; refine (zzday_any _ (by omega) (by omega) _).mono ?_; rintro e w' ⟨rfl, rfl⟩))
    go_ret
    exact ⟨ret_b (sub_same _ _), rfl⟩
theorem walk3 (y : Int) (w : World) :
    Calls Try.prog 3 #[.int .i64 y] w fun e w' => e = .returned (.bool true) ∧ w' = w := by
  by_cases h1 : y < 1
  · go_enter Try.func3, Try.ntmps3
    go_wp2
    go_ret
    exact ⟨rfl, rfl⟩
  · by_cases h2 : 18014398509481984 < y
    · go_enter Try.func3, Try.ntmps3
      go_wp2
      go_ret
      exact ⟨rfl, rfl⟩
    · exact walk3in y (by omega) (by omega) w

/-! ### The second law -/
theorem walk4in (a b lo hi : Int) (hc : (b < a ∧ lo = b ∧ hi = a) ∨ (¬ b < a ∧ lo = a ∧ hi = b)) (h1 : 1 ≤ a) (h2 : a ≤ 18014398509481984) (h3 : 1 ≤ b) (h4 : b ≤ 18014398509481984) (w : World) :
    Calls Try.prog 4 #[.int .i64 a, .int .i64 b] w fun e w' => e = .returned (.bool true) ∧ w' = w := by
  rcases hc with ⟨hab, rfl, rfl⟩ | ⟨hab, rfl, rfl⟩
  all_goals
    obtain ⟨b1, b2⟩ := dz_bd lo (by omega) (by omega)
    obtain ⟨b3, b4⟩ := dz_bd hi (by omega) (by omega)
    go_enter Try.func4, Try.ntmps4
    go_wp2
    go_loop [8, 10] (fun l k => ∃ n : Int, 0 ≤ n ∧ n ≤ (hi - lo) % 400 ∧ k = .int .i64 n ∧ l = .int .i64 (97 * ((hi - lo) / 400) + lv lo n)) (fun _ k => ((hi - lo) % 400 - intOf k).toNat)
    case atStart => exact ⟨0, by omega, by omega, rfl, by rw [lv_zero]; simp⟩
    case round =>
      obtain ⟨n, n1, n2, rfl, rfl⟩ := hrel
      obtain ⟨b5, b6⟩ := lv_bd lo n n1 (by omega)
      by_cases hlt : n < (hi - lo) % 400
      · cases hl : lpB (lo + n)
        · have HS : Hid (lv lo n = lv lo (n + 1)) := lv_no lo n hl
          go_wp2_with (go_at_call 5; refine (leap_any _ (by omega) (by omega) _).mono ?_; rintro e w' ⟨rfl, rfl⟩)
          go_round
          case rel => exact ⟨n + 1, by omega, by omega, rfl, by rw [HS.out]⟩
          case measure => simp [intOf]; omega
        · have HS : Hid (lv lo n + 1 = lv lo (n + 1)) := lv_yes lo n hl
          go_wp2_with (go_at_call 5; refine (leap_any _ (by omega) (by omega) _).mono ?_; rintro e w' ⟨rfl, rfl⟩)
          go_round
          case rel => exact ⟨n + 1, by omega, by omega, rfl, by rw [← HS.out, Int.add_assoc]⟩
          case measure => simp [intOf]; omega
      · have HS : Hid ((dz hi - dz lo == 365 * (hi - lo) + (97 * ((hi - lo) / 400) + lv lo n)) = true) := lv_span lo hi n (by omega)
        go_wp2_with (go_at_call 6; refine (zzday_any _ (by omega) (by omega) _).mono ?_; rintro e w' ⟨rfl, rfl⟩)
        go_ret
        exact ⟨ret_b HS.out, rfl⟩

theorem walk4 (a b : Int) (w : World) :
    Calls Try.prog 4 #[.int .i64 a, .int .i64 b] w fun e w' => e = .returned (.bool true) ∧ w' = w := by
  by_cases h1 : a < 1
  · go_enter Try.func4, Try.ntmps4
    go_wp2
    go_ret
    exact ⟨rfl, rfl⟩
  · by_cases h2 : 18014398509481984 < a
    · go_enter Try.func4, Try.ntmps4
      go_wp2
      go_ret
      exact ⟨rfl, rfl⟩
    · by_cases h3 : b < 1
      · go_enter Try.func4, Try.ntmps4
        go_wp2
        go_ret
        exact ⟨rfl, rfl⟩
      · by_cases h4 : 18014398509481984 < b
        · go_enter Try.func4, Try.ntmps4
          go_wp2
          go_ret
          exact ⟨rfl, rfl⟩
        · by_cases hab : b < a
          · exact walk4in a b b a (.inl ⟨hab, rfl, rfl⟩) (by omega) (by omega) (by omega) (by omega) w
          · exact walk4in a b a b (.inr ⟨hab, rfl, rfl⟩) (by omega) (by omega) (by omega) (by omega) w
end Go.Proofs.Qxb6613619a

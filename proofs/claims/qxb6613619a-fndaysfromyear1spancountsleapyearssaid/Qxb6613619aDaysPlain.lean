/- The plain law of the days: no Go in sight. -/
import Derived.WalkKit
namespace Go.Proofs.Qxb6613619a
/-- The days from January 1 of year 1 to January 1 of year y. -/
def dz (y : Int) : Int := 365 * (y - 1) + (y - 1) / 4 - (y - 1) / 100 + (y - 1) / 400
/-- Is y a Gregorian leap year? -/
def lpB (y : Int) : Bool := decide (y % 4 = 0 ∧ (y % 100 ≠ 0 ∨ y % 400 = 0))
theorem dz_one : dz 1 = 0 := by decide
theorem dz_bd (y : Int) (h1 : 1 ≤ y) (h2 : y ≤ 18014398509481985) : 0 ≤ dz y ∧ dz y ≤ 6579759055588294656 := by unfold dz; omega
theorem dz_yes (y : Int) (h : lpB y = true) : dz (y + 1) = dz y + 366 := by
  unfold lpB at h; simp only [decide_eq_true_eq] at h; unfold dz; omega
theorem dz_no (y : Int) (h : lpB y = false) : dz (y + 1) = dz y + 365 := by
  unfold lpB at h; simp only [decide_eq_false_iff_not] at h; unfold dz; omega
theorem dz_400 (y q : Int) : dz (y + 400 * q) = dz y + 146097 * q := by unfold dz; omega
theorem dz_span (lo hi : Int) : dz hi - dz lo = 365 * (hi - lo) + (97 * ((hi - lo) / 400) + (dz (lo + (hi - lo) % 400) - dz lo - 365 * ((hi - lo) % 400))) := by
  have h := dz_400 (lo + (hi - lo) % 400) ((hi - lo) / 400)
  have e : lo + (hi - lo) % 400 + 400 * ((hi - lo) / 400) = hi := by omega
  rw [e] at h
  omega
/-- The leap years among the n years from lo on, as the days tell them. -/
def lv (lo n : Int) : Int := dz (lo + n) - dz lo - 365 * n
theorem lv_zero (lo : Int) : lv lo 0 = 0 := by unfold lv; simp
theorem lv_bd (lo n : Int) (h1 : 0 ≤ n) (h2 : n ≤ 400) : 0 ≤ lv lo n ∧ lv lo n ≤ 400 := by unfold lv dz; omega
theorem lv_yes (lo n : Int) (h : lpB (lo + n) = true) : lv lo n + 1 = lv lo (n + 1) := by
  have := dz_yes (lo + n) h
  rw [show lo + n + 1 = lo + (n + 1) by omega] at this
  unfold lv; omega
theorem lv_no (lo n : Int) (h : lpB (lo + n) = false) : lv lo n = lv lo (n + 1) := by
  have := dz_no (lo + n) h
  rw [show lo + n + 1 = lo + (n + 1) by omega] at this
  unfold lv; omega
theorem lv_span (lo hi n : Int) (hn : n = (hi - lo) % 400) : (dz hi - dz lo == 365 * (hi - lo) + (97 * ((hi - lo) / 400) + lv lo n)) = true := by
  subst hn
  rw [beq_iff_eq]
  exact dz_span lo hi
theorem sub_same (a c : Int) : (a + c - a == c) = true := by rw [beq_iff_eq]; omega
end Go.Proofs.Qxb6613619a

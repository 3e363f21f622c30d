/-
  THE WALK of 'FnLinesShiftByWholeLines' (4).
-/
import Derived.Test.Qxb6618574aLinesWalks
namespace Go.Proofs.Qxb6618574a.Lines
open Go.RowKit

set_option maxHeartbeats 1000000 in
theorem shift4 (o s n j : Int) (w : World) (ro : -9223372036854775808 ≤ o ∧ o ≤ 9223372036854775807) (rs : -9223372036854775808 ≤ s ∧ s ≤ 9223372036854775807) (rn : -9223372036854775808 ≤ n ∧ n ≤ 9223372036854775807) (rj : -9223372036854775808 ≤ j ∧ j ≤ 9223372036854775807) :
    Calls Try.prog 4 #[.int .i64 o, .int .i64 s, .int .i64 n, .int .i64 j] w fun e w' => e = .returned (.bool true) ∧ Grown w w' := by
  by_cases c1 : n < 1
  · go_enter Try.func4, Try.ntmps4
    go_wp2
    go_ret
    exact ⟨rfl, Grown.refl _⟩
  by_cases c2 : o < 0
  · go_enter Try.func4, Try.ntmps4
    go_wp2
    go_ret
    exact ⟨rfl, Grown.refl _⟩
  by_cases c3 : s < 0
  · go_enter Try.func4, Try.ntmps4
    go_wp2
    go_ret
    exact ⟨rfl, Grown.refl _⟩
  by_cases c5 : j < 0
  · go_enter Try.func4, Try.ntmps4
    go_wp2
    go_ret
    exact ⟨rfl, Grown.refl _⟩
  by_cases c4 : 9223372036854775807 - s < o
  · go_enter Try.func4, Try.ntmps4
    go_wp2
    go_ret
    exact ⟨rfl, Grown.refl _⟩
  have hz : ¬ n = 0 := by omega
  have q0 := div_nonneg' (9223372036854775807 - o - s) n (by omega) (by omega)
  have q1 := div_le (9223372036854775807 - o - s) n (by omega)
  by_cases c6 : (9223372036854775807 - o - s) / n < j
  · go_enter Try.func4, Try.ntmps4
    go_wp2
    go_ret
    exact ⟨rfl, Grown.refl _⟩
  have d1 : decide (n < 1) = false := by simp; omega
  have d2 : decide (o < 0) = false := by simp; omega
  have d3 : decide (s < 0) = false := by simp; omega
  have d4 : decide (j < 0) = false := by simp; omega
  obtain ⟨p0, p1⟩ := fits o s j n (by omega) (by omega) (by omega)
  obtain ⟨f0, f1, _, _, _⟩ := fst_bounds o n (by omega) (by omega)
  obtain ⟨g0, g1, _, _, _⟩ := fst_bounds (o + j * n) n (by omega) (by omega)
  have x1 := shift_first o j n (by omega)
  have x2 := shift_last o s j n (by omega)
  have e1 : (fstL (o + j * n) n == fstL o n + j) = true := by rw [beq_iff_eq]; exact x1
  have e2 : (lstL (o + j * n) s n == lstL o s n + j) = true := by rw [beq_iff_eq]; exact x2
  clear x1 x2
  have r0 := Int.emod_nonneg o (show n ≠ 0 by omega)
  have r1 := Int.emod_lt_of_pos o (show 0 < n by omega)
  by_cases hs0 : s = 0
  · subst hs0
    rw [lst_zero, lst_zero] at e2
    rw [Int.sub_zero] at c6 q0 q1
    have e3 : (fstL o n == fstL o n) = true := by simp
    go_enter Try.func4, Try.ntmps4
    go_wp2_with fail
    refine (lines6 _ o 0 n _ (by omega) (by omega) (by omega) (by omega) (by omega)).mono ?_
    rintro e w1 ⟨rfl, hg1⟩
    rw [lst_zero]
    go_wp2_with fail
    refine (lines6 _ (o + j * n) 0 n _ (by omega) (by omega) (by omega) (by omega) (by omega)).mono ?_
    rintro e w2 ⟨rfl, hg2⟩
    rw [lst_zero]
    go_wp2
    go_ret
    exact ⟨rfl, grown_trans hg1 hg2⟩
  · have s0 : (s == 0) = false := by simp; omega
    obtain ⟨l0, l1, _, _, _⟩ := lst_bounds o s n (by omega) (by omega) (by omega)
    obtain ⟨m0, m1, _, _, _⟩ := lst_bounds (o + j * n) s n (by omega) (by omega) (by omega)
    have i1 := one_line o s n (by omega) (by omega)
    have r2 : o % n ≤ o := mod_le o n (by omega) (by omega)
    by_cases h1 : o % n + s ≤ n
    · have i2 : (lstL o s n == fstL o n) = true := by rw [beq_iff_eq]; exact i1.2 h1
      have h2 : decide (o % n + s ≤ n) = true := by simp; omega
      clear i1
      go_enter Try.func4, Try.ntmps4
      go_wp2_with fail
      refine (lines6 _ o s n _ (by omega) (by omega) (by omega) (by omega) (by omega)).mono ?_
      rintro e w1 ⟨rfl, hg1⟩
      go_wp2_with fail
      refine (lines6 _ (o + j * n) s n _ (by omega) (by omega) (by omega) (by omega) (by omega)).mono ?_
      rintro e w2 ⟨rfl, hg2⟩
      go_wp2
      go_ret
      exact ⟨rfl, grown_trans hg1 hg2⟩
    · have i2 : (lstL o s n == fstL o n) = false := by rw [beq_eq_false_iff_ne]; exact fun e => h1 (i1.1 e)
      have h2 : decide (o % n + s ≤ n) = false := by simp; omega
      clear i1
      go_enter Try.func4, Try.ntmps4
      go_wp2_with fail
      refine (lines6 _ o s n _ (by omega) (by omega) (by omega) (by omega) (by omega)).mono ?_
      rintro e w1 ⟨rfl, hg1⟩
      go_wp2_with fail
      refine (lines6 _ (o + j * n) s n _ (by omega) (by omega) (by omega) (by omega) (by omega)).mono ?_
      rintro e w2 ⟨rfl, hg2⟩
      go_wp2
      go_ret
      exact ⟨rfl, grown_trans hg1 hg2⟩
end Go.Proofs.Qxb6618574a.Lines

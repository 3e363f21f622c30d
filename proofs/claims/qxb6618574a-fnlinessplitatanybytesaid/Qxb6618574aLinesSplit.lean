/-
  THE WALK of 'FnLinesSplitAtAnyByte' (3).
-/
import Derived.Test.Qxb6618574aLinesWalks
namespace Go.Proofs.Qxb6618574a.Lines
open Go.RowKit

theorem hide {p : Prop} (h : p) : Hid p := h

set_option maxHeartbeats 1000000 in
theorem split3 (o s n k : Int) (w : World) (ro : -9223372036854775808 ≤ o ∧ o ≤ 9223372036854775807) (rs : -9223372036854775808 ≤ s ∧ s ≤ 9223372036854775807) (rn : -9223372036854775808 ≤ n ∧ n ≤ 9223372036854775807) (rk : -9223372036854775808 ≤ k ∧ k ≤ 9223372036854775807) :
    Calls Try.prog 3 #[.int .i64 o, .int .i64 s, .int .i64 n, .int .i64 k] w fun e w' => e = .returned (.bool true) ∧ Grown w w' := by
  by_cases c1 : n < 1
  · go_enter Try.func3, Try.ntmps3
    go_wp2
    go_ret
    exact ⟨rfl, Grown.refl _⟩
  by_cases c2 : o < 0
  · go_enter Try.func3, Try.ntmps3
    go_wp2
    go_ret
    exact ⟨rfl, Grown.refl _⟩
  by_cases c3 : s < 0
  · go_enter Try.func3, Try.ntmps3
    go_wp2
    go_ret
    exact ⟨rfl, Grown.refl _⟩
  by_cases c4 : 9223372036854775807 - s < o
  · go_enter Try.func3, Try.ntmps3
    go_wp2
    go_ret
    exact ⟨rfl, Grown.refl _⟩
  have d1 : decide (n < 1) = false := by simp; omega
  have d2 : decide (o < 0) = false := by simp; omega
  have d3 : decide (s < 0) = false := by simp; omega
  obtain ⟨f0, f1, f2, f3, f4⟩ := fst_bounds o n (by omega) (by omega)
  by_cases hs0 : s = 0
  · subst hs0
    have e0 : (fstL o n != fstL o n) = false := by simp
    go_enter Try.func3, Try.ntmps3
    go_wp2_with fail
    refine (lines6 _ o 0 n _ (by omega) (by omega) (by omega) (by omega) (by omega)).mono ?_
    rintro e w1 ⟨rfl, hg⟩
    rw [lst_zero]
    go_wp2
    all_goals (go_ret; exact ⟨rfl, hg⟩)
  · have s0 : (s == 0) = false := by simp; omega
    obtain ⟨l0, l1, l2, l3, l4⟩ := lst_bounds o s n (by omega) (by omega) (by omega)
    by_cases k1 : k ≤ 0
    · go_enter Try.func3, Try.ntmps3
      go_wp2_with fail
      refine (lines6 _ o s n _ (by omega) (by omega) (by omega) (by omega) (by omega)).mono ?_
      rintro e w1 ⟨rfl, hg⟩
      go_wp2
      go_ret
      exact ⟨rfl, hg⟩
    by_cases k2 : s ≤ k
    · go_enter Try.func3, Try.ntmps3
      go_wp2_with fail
      refine (lines6 _ o s n _ (by omega) (by omega) (by omega) (by omega) (by omega)).mono ?_
      rintro e w1 ⟨rfl, hg⟩
      go_wp2
      go_ret
      exact ⟨rfl, hg⟩
    have e1 : (fstL o n == fstL o n) = true := by simp
    have e2 : (lstL (o + k) (s - k) n == lstL o s n) = true := by rw [beq_iff_eq]; exact tail_last o s k n (by omega) (by omega)
    obtain ⟨t0, t1⟩ := tail_first o k n (by omega) (by omega)
    obtain ⟨g0, g1, _, _, _⟩ := fst_bounds (o + k) n (by omega) (by omega)
    obtain ⟨m0, m1, _, _, _⟩ := lst_bounds o k n (by omega) (by omega) (by omega)
    go_enter Try.func3, Try.ntmps3
    go_wp2_with fail
    refine (lines6 _ o s n _ (by omega) (by omega) (by omega) (by omega) (by omega)).mono ?_
    rintro e w1 ⟨rfl, hg1⟩
    go_wp2_with fail
    refine (lines6 _ o k n _ (by omega) (by omega) (by omega) (by omega) (by omega)).mono ?_
    rintro e w2 ⟨rfl, hg2⟩
    go_wp2_with fail
    refine (lines6 _ (o + k) (s - k) n _ (by omega) (by omega) (by omega) (by omega) (by omega)).mono ?_
    rintro e w3 ⟨rfl, hg3⟩
    go_wp2
    go_ret
    exact ⟨rfl, grown_trans (grown_trans hg1 hg2) hg3⟩
end Go.Proofs.Qxb6618574a.Lines

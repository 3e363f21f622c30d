/-
  THE PLAIN LAW OF 'Field.Lines': no Go in sight.
-/
import Derived.WalkKit
namespace Go.Proofs.Qxb6618574a.Lines

/-- The line that holds byte o. -/
def fstL (o n : Int) : Int := o / n
/-- The line that holds the last byte of a field of s bytes at o; of a field of no bytes the line of its offset. -/
def lstL (o s n : Int) : Int := if s = 0 then o / n else (o + s - 1) / n

theorem div_low (x n : Int) (hn : 1 ≤ n) : x / n * n ≤ x := by
  have := Int.emod_add_mul_ediv x n
  have h := Int.emod_nonneg x (show n ≠ 0 by omega)
  rw [Int.mul_comm] at this
  omega
theorem div_high (x n : Int) (hn : 1 ≤ n) : x - x / n * n < n := by
  have := Int.emod_add_mul_ediv x n
  have h := Int.emod_lt_of_pos x (show 0 < n by omega)
  rw [Int.mul_comm] at this
  omega
theorem div_nonneg' (x n : Int) (hx : 0 ≤ x) (hn : 1 ≤ n) : 0 ≤ x / n := Int.ediv_nonneg hx (by omega)
theorem div_mono (x y n : Int) (h : x ≤ y) (hn : 1 ≤ n) : x / n ≤ y / n := Int.ediv_le_ediv (by omega) h
theorem div_le (x n : Int) (hx : 0 ≤ x) : x / n ≤ x := Int.ediv_le_self _ hx
theorem div_succ (x n : Int) (hn : 1 ≤ n) : (x + 1) / n ≤ x / n + 1 := by
  have h : (x + 1) / n ≤ (x + n) / n := div_mono _ _ _ (by omega) hn
  rwa [Int.add_ediv_of_dvd_right (Int.dvd_refl n), Int.ediv_self (by omega)] at h

theorem fst_bounds (o n : Int) (ho : 0 ≤ o) (hn : 1 ≤ n) : 0 ≤ fstL o n ∧ fstL o n ≤ o ∧ 0 ≤ fstL o n * n ∧ fstL o n * n ≤ o ∧ o - fstL o n * n < n := by
  have h0 := div_nonneg' o n ho hn
  exact ⟨h0, div_le o n ho, Int.mul_nonneg h0 (by omega), div_low o n hn, div_high o n hn⟩

theorem lst_zero (o n : Int) : lstL o 0 n = fstL o n := by simp [lstL, fstL]

theorem lst_bounds (o s n : Int) (ho : 0 ≤ o) (hs : 1 ≤ s) (hn : 1 ≤ n) :
    fstL o n ≤ lstL o s n ∧ lstL o s n ≤ o + s - 1 ∧ 0 ≤ lstL o s n * n ∧ lstL o s n * n ≤ o + s - 1 ∧ o + s - 1 - lstL o s n * n < n := by
  unfold lstL fstL
  rw [if_neg (by omega)]
  have h0 := div_nonneg' (o + s - 1) n (by omega) hn
  exact ⟨div_mono _ _ _ (by omega) hn, div_le _ n (by omega), Int.mul_nonneg h0 (by omega), div_low _ n hn, div_high _ n hn⟩

/-- The cut at byte k: the tail ends where the whole ends. -/
theorem tail_last (o s k n : Int) (hk : 1 ≤ k) (hks : k < s) : lstL (o + k) (s - k) n = lstL o s n := by
  unfold lstL
  rw [if_neg (by omega), if_neg (by omega), show o + k + (s - k) - 1 = o + s - 1 by omega]

/-- The tail starts on the line where the head ends, or on the next. -/
theorem tail_first (o k n : Int) (hk : 1 ≤ k) (hn : 1 ≤ n) : lstL o k n ≤ fstL (o + k) n ∧ fstL (o + k) n - lstL o k n ≤ 1 := by
  unfold lstL fstL
  rw [if_neg (by omega)]
  have h1 := div_mono (o + k - 1) (o + k) n (by omega) hn
  have h2 := div_succ (o + k - 1) n hn
  rw [show o + k - 1 + 1 = o + k by omega] at h2
  omega

/-- Moved on by j lines. -/
theorem shift_first (o j n : Int) (hn : 1 ≤ n) : fstL (o + j * n) n = fstL o n + j := by
  unfold fstL
  rw [Int.add_mul_ediv_right _ _ (by omega)]
theorem shift_last (o s j n : Int) (hn : 1 ≤ n) : lstL (o + j * n) s n = lstL o s n + j := by
  unfold lstL
  split
  · rw [Int.add_mul_ediv_right _ _ (by omega)]
  · rw [show o + j * n + s - 1 = o + s - 1 + j * n by omega, Int.add_mul_ediv_right _ _ (by omega)]

theorem fits (o s j n : Int) (hj : 0 ≤ j) (hn : 1 ≤ n) (h : j ≤ (9223372036854775807 - o - s) / n) : 0 ≤ j * n ∧ o + j * n + s ≤ 9223372036854775807 := by
  have h1 := div_low (9223372036854775807 - o - s) n hn
  have h2 : j * n ≤ (9223372036854775807 - o - s) / n * n := Int.mul_le_mul_of_nonneg_right h (by omega)
  exact ⟨Int.mul_nonneg hj (by omega), by omega⟩

theorem mod_le (o n : Int) (ho : 0 ≤ o) (hn : 1 ≤ n) : o % n ≤ o := by
  have h := Int.emod_add_mul_ediv o n
  have h0 : 0 ≤ n * (o / n) := Int.mul_nonneg (by omega) (div_nonneg' o n ho hn)
  omega

/-- The field lies on one line exactly when it has no bytes or ends within its first line. -/
theorem one_line (o s n : Int) (hs : 1 ≤ s) (hn : 1 ≤ n) : lstL o s n = fstL o n ↔ o % n + s ≤ n := by
  unfold lstL fstL
  rw [if_neg (by omega)]
  have e : o + s - 1 = (o % n + s - 1) + (o / n) * n := by
    have := Int.emod_add_mul_ediv o n
    rw [Int.mul_comm] at this
    omega
  have h0 := Int.emod_nonneg o (show n ≠ 0 by omega)
  rw [e, Int.add_mul_ediv_right _ _ (by omega)]
  constructor
  · intro h
    have h1 : (o % n + s - 1) / n = 0 := by omega
    have h2 := div_high (o % n + s - 1) n hn
    rw [h1] at h2
    omega
  · intro h
    rw [Int.ediv_eq_zero_of_lt (by omega) (by omega)]
    omega

end Go.Proofs.Qxb6618574a.Lines

/-
  THE PLAIN LAW OF 'slot': no Go in sight. The slot of an id in a table of n = 2^k cells is (id * C) mod n, C odd.
-/
import Derived.WalkKit
import Derived.Laws.BitsAllLaws
namespace Go.Proofs.Qxb6618527a.Slot
open Go.RowKit

/-- The odd multiplier. -/
def gold : Int := 2654435769

/-- The slot, as the Go text comes to it (before the mask is read as a remainder). -/
def hash (id : Int) : Int := id % 4294967296 * 2654435769 % 4294967296

/-- The slot of an id in a table of n cells. -/
def slotv (id n : Int) : Int := (id * gold) % n

theorem i64_and_nat (a b : Nat) (ha : a < 9223372036854775808) (hb : b < 9223372036854775808) :
    bits .and .i64 (a : Int) (b : Int) = ((a &&& b : Nat) : Int) := by
  have hx : a &&& b < 2 ^ 63 := Nat.and_lt_two_pow _ (by omega)
  have ea : (BitVec.ofInt 64 (a : Int)).toNat = a := by
    rw [BitVec.ofInt_natCast, BitVec.toNat_ofNat]; exact Nat.mod_eq_of_lt (by omega)
  have eb : (BitVec.ofInt 64 (b : Int)).toNat = b := by
    rw [BitVec.ofInt_natCast, BitVec.toNat_ofNat]; exact Nat.mod_eq_of_lt (by omega)
  show IntKind.i64.wrap ((BitVec.ofInt 64 (a : Int) &&& BitVec.ofInt 64 (b : Int)).toNat : Int) = _
  rw [BitVec.toNat_and, ea, eb, IntKind.wrap_i64]
  omega

/-- 'n & (n-1) == 0' says that n is a power of two. -/
theorem pow_of_and : ∀ (f n : Nat), n ≤ f → 1 ≤ n → n &&& (n - 1) = 0 → ∃ k, n = 2 ^ k := by
  intro f
  induction f with
  | zero => intro n h1 h2 _; omega
  | succ f ih =>
    intro n h1 h2 h3
    rcases Nat.mod_two_eq_zero_or_one n with h | h
    · obtain ⟨m, rfl⟩ : ∃ m, n = 2 * m := ⟨n / 2, by omega⟩
      have hm : m &&& (m - 1) = 0 := by
        have e := Nat.and_div_two_pow (a := 2 * m) (b := 2 * m - 1) (n := 1)
        rw [h3] at e
        have e1 : 2 * m / 2 ^ 1 = m := by omega
        have e2 : (2 * m - 1) / 2 ^ 1 = m - 1 := by omega
        rw [e1, e2] at e
        simpa using e.symm
      obtain ⟨k, hk⟩ := ih m (by omega) (by omega) hm
      exact ⟨k + 1, by rw [Nat.pow_succ]; omega⟩
    · have e := Nat.and_div_two_pow (a := n) (b := n - 1) (n := 1)
      rw [h3] at e
      have e2 : (n - 1) / 2 ^ 1 = n / 2 ^ 1 := by omega
      rw [e2, Nat.and_self] at e
      have : n / 2 = 0 := by simpa using e.symm
      exact ⟨0, by omega⟩

theorem pow_of_bits (n : Int) (h1 : 1 ≤ n) (h2 : n ≤ 65536) (h : bits .and .i64 n (n - 1) = 0) : ∃ k : Nat, k ≤ 16 ∧ n = ((2 ^ k : Nat) : Int) := by
  obtain ⟨m, rfl⟩ := Int.eq_ofNat_of_zero_le (show 0 ≤ n by omega)
  have e : (m : Int) - 1 = ((m - 1 : Nat) : Int) := by omega
  rw [e, i64_and_nat m (m - 1) (by omega) (by omega)] at h
  obtain ⟨k, hk⟩ := pow_of_and m m (Nat.le_refl _) (by omega) (by omega)
  refine ⟨k, ?_, by rw [hk]⟩
  have hle : 2 ^ k ≤ 2 ^ 16 := by rw [← hk]; omega
  exact (Nat.pow_le_pow_iff_right (by decide)).1 hle

/-- A mask of k ones is the remainder by 2^k. -/
theorem mask (k : Nat) (hk : k ≤ 16) (x : Int) (h0 : 0 ≤ x) (h1 : x < 9223372036854775808) :
    bits .and .i64 x (((2 ^ k : Nat) : Int) - 1) = x % ((2 ^ k : Nat) : Int) := by
  obtain ⟨m, rfl⟩ := Int.eq_ofNat_of_zero_le h0
  have hp : 1 ≤ 2 ^ k := Nat.one_le_two_pow
  have hle : 2 ^ k ≤ 2 ^ 16 := Nat.pow_le_pow_right (by decide) hk
  have e : ((2 ^ k : Nat) : Int) - 1 = ((2 ^ k - 1 : Nat) : Int) := by omega
  rw [e, i64_and_nat m (2 ^ k - 1) (by omega) (by omega), Nat.and_two_pow_sub_one_eq_mod]
  omega

theorem mask32 (k : Nat) (hk : k ≤ 16) (x : Int) (h0 : 0 ≤ x) (h1 : x < 4294967296) :
    bits .and .u32 x (((2 ^ k : Nat) : Int) - 1) = x % ((2 ^ k : Nat) : Int) := by
  obtain ⟨m, rfl⟩ := Int.eq_ofNat_of_zero_le h0
  have hp : 1 ≤ 2 ^ k := Nat.one_le_two_pow
  have hle : 2 ^ k ≤ 2 ^ 16 := Nat.pow_le_pow_right (by decide) hk
  have e : ((2 ^ k : Nat) : Int) - 1 = ((2 ^ k - 1 : Nat) : Int) := by omega
  rw [e, u32_and_nat m (2 ^ k - 1) (by omega) (by omega), Nat.and_two_pow_sub_one_eq_mod]
  omega

theorem dvd32 (k : Nat) (hk : k ≤ 16) : ((2 ^ k : Nat) : Int) ∣ 4294967296 := by
  have h : (2 ^ k : Nat) ∣ 2 ^ 32 := Nat.pow_dvd_pow 2 (by omega)
  exact Int.ofNat_dvd.2 h

/-- The wraps fall away: n divides 2^32. -/
theorem hash_mod (k : Nat) (hk : k ≤ 16) (id : Int) : hash id % ((2 ^ k : Nat) : Int) = slotv id ((2 ^ k : Nat) : Int) := by
  unfold hash slotv gold
  rw [Int.emod_emod_of_dvd _ (dvd32 k hk), Int.mul_emod, Int.emod_emod_of_dvd _ (dvd32 k hk), ← Int.mul_emod]

theorem hash_bounds (id : Int) : 0 ≤ hash id ∧ hash id < 4294967296 := by
  unfold hash
  omega

theorem slot_bits (k : Nat) (hk : k ≤ 16) (id : Int) :
    bits .and .i64 (hash id) (((2 ^ k : Nat) : Int) - 1) = slotv id ((2 ^ k : Nat) : Int) := by
  have hb := hash_bounds id
  rw [mask k hk _ hb.1 (by omega), hash_mod k hk]

theorem slotv_bounds (k : Nat) (id : Int) : 0 ≤ slotv id ((2 ^ k : Nat) : Int) ∧ slotv id ((2 ^ k : Nat) : Int) < ((2 ^ k : Nat) : Int) := by
  have hp : 0 < 2 ^ k := Nat.two_pow_pos k
  have hp' : (0 : Int) < ((2 ^ k : Nat) : Int) := by exact Int.natCast_pos.2 hp
  exact ⟨Int.emod_nonneg _ (by omega), Int.emod_lt_of_pos _ hp'⟩

/-- An id counts only by its remainder. -/
theorem slotv_congr (n a b : Int) (h : a % n = b % n) : slotv a n = slotv b n := by
  unfold slotv
  rw [Int.mul_emod, h, ← Int.mul_emod]

theorem wrap32_mod (k : Nat) (hk : k ≤ 16) (x : Int) : wrap32 x % ((2 ^ k : Nat) : Int) = x % ((2 ^ k : Nat) : Int) := by
  obtain ⟨q, hq⟩ : ∃ q, wrap32 x = x + 4294967296 * q := ⟨(wrap32 x - x) / 4294967296, by unfold wrap32; omega⟩
  obtain ⟨r, hr⟩ := dvd32 k hk
  have e : 4294967296 * q = ((2 ^ k : Nat) : Int) * (r * q) := by rw [← Int.mul_assoc, ← hr]
  rw [hq, e, Int.add_mul_emod_self_left]

/-- The law of one step. -/
theorem step (k : Nat) (hk : k ≤ 16) (id : Int) :
    slotv (wrap32 (id + 1)) ((2 ^ k : Nat) : Int) = (slotv id ((2 ^ k : Nat) : Int) + gold % ((2 ^ k : Nat) : Int)) % ((2 ^ k : Nat) : Int) := by
  rw [slotv_congr _ _ _ (wrap32_mod k hk (id + 1))]
  unfold slotv
  rw [Int.add_mul, Int.one_mul, Int.add_emod]

/-- The law of one table's length. -/
theorem period (k : Nat) (hk : k ≤ 16) (id : Int) :
    slotv (wrap32 (id + ((2 ^ k : Nat) : Int))) ((2 ^ k : Nat) : Int) = slotv id ((2 ^ k : Nat) : Int) := by
  refine slotv_congr _ _ _ ?_
  rw [wrap32_mod k hk, Int.add_emod_right]

/-- An odd multiplier parts what the table's length parts. (340573321 is the multiplier's inverse by 2^32.) -/
theorem apart (k : Nat) (hk : k ≤ 16) (a b : Int) (h : slotv a ((2 ^ k : Nat) : Int) = slotv b ((2 ^ k : Nat) : Int)) :
    a % ((2 ^ k : Nat) : Int) = b % ((2 ^ k : Nat) : Int) := by
  have key : ∀ x : Int, (slotv x ((2 ^ k : Nat) : Int) * 340573321) % ((2 ^ k : Nat) : Int) = x % ((2 ^ k : Nat) : Int) := by
    intro x
    obtain ⟨r, hr⟩ := dvd32 k hk
    unfold slotv gold
    rw [Int.mul_emod, Int.emod_emod, ← Int.mul_emod, Int.mul_assoc]
    have e : x * (2654435769 * 340573321) = x + ((2 ^ k : Nat) : Int) * (r * (x * 210485888)) := by
      have e2 : ((2 ^ k : Nat) : Int) * (r * (x * 210485888)) = 4294967296 * (x * 210485888) := by rw [← Int.mul_assoc, ← hr]
      rw [e2]
      omega
    rw [e, Int.add_mul_emod_self_left]
  rw [← key a, ← key b, h]

/-- A power of two passes the test 'n & (n-1) == 0'. -/
theorem and_of_pow (k : Nat) (hk : k ≤ 16) : bits .and .i64 ((2 ^ k : Nat) : Int) (((2 ^ k : Nat) : Int) - 1) = 0 := by
  have hle : 2 ^ k ≤ 2 ^ 16 := Nat.pow_le_pow_right (by decide) hk
  have hp : 0 < 2 ^ k := Nat.two_pow_pos k
  rw [mask k hk _ (by omega) (by omega), Int.emod_self]

/-- The one step as the Go text asks it. -/
theorem step_bits (k : Nat) (hk : k ≤ 16) (id : Int) :
    slotv (wrap32 (id + 1)) ((2 ^ k : Nat) : Int) =
      bits .and .i64 (slotv id ((2 ^ k : Nat) : Int) + bits .and .u32 2654435769 (((2 ^ k : Nat) : Int) - 1)) (((2 ^ k : Nat) : Int) - 1) := by
  have hb := slotv_bounds k id
  have hle : 2 ^ k ≤ 2 ^ 16 := Nat.pow_le_pow_right (by decide) hk
  have hp : 0 < 2 ^ k := Nat.two_pow_pos k
  rw [mask32 k hk _ (by decide) (by decide)]
  have g0 : 0 ≤ (2654435769 : Int) % ((2 ^ k : Nat) : Int) := Int.emod_nonneg _ (by omega)
  have g1 : (2654435769 : Int) % ((2 ^ k : Nat) : Int) < ((2 ^ k : Nat) : Int) := Int.emod_lt_of_pos _ (by omega)
  rw [mask k hk _ (by omega) (by omega), step k hk id]
  rfl

theorem gold_bounds (k : Nat) (hk : k ≤ 16) : 0 ≤ bits .and .u32 2654435769 (((2 ^ k : Nat) : Int) - 1) ∧ bits .and .u32 2654435769 (((2 ^ k : Nat) : Int) - 1) < ((2 ^ k : Nat) : Int) := by
  have hp : 0 < 2 ^ k := Nat.two_pow_pos k
  rw [mask32 k hk _ (by decide) (by decide)]
  exact ⟨Int.emod_nonneg _ (by omega), Int.emod_lt_of_pos _ (by omega)⟩

end Go.Proofs.Qxb6618527a.Slot

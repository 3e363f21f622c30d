/-
  THE WALK of 'FnSlotSendsAnyNConsecutiveIdsToNDistinctSlots' (5) where n is a power of two: a loop over a new row of bools.
-/
import Derived.Test.Qxb6618527aSlotWalks
namespace Go.Proofs.Qxb6618527a.Slot
open Go.RowKit

theorem info4 : (Try.prog.info? 4).map (fun i => (i.zero, i.size, i.bytes)) = some (some (.bool false), 1, 1) := by kernel_rfl

/-! ### Lemmas outside the walk -/
theorem made_at (w1 : World) (n H j : Nat) (hs : w1.heap.size = H) (hj : j < n) :
    (w1.alloc (.cells (madeCells #[.bool false] n) 4)).cell? ⟨H, j, none⟩ = some (.bool false) := by
  have e : (w1.alloc (.cells (madeCells #[.bool false] n) 4)).heap[H]? = some (.cells (madeCells #[.bool false] n) 4) := by
    rw [← hs]; exact (MapKept.heap_alloc w1 _).1
  simp only [World.cell?, e]
  simp [madeCells, hj, Nat.mod_one]

theorem made_free (w1 : World) (n H j : Nat) (hs : w1.heap.size = H) :
    (w1.alloc (.cells (madeCells #[.bool false] n) 4)).frozen? ⟨H, j, none⟩ = false := by
  have e : (w1.alloc (.cells (madeCells #[.bool false] n) 4)).heap[H]? = some (.cells (madeCells #[.bool false] n) 4) := by
    rw [← hs]; exact (MapKept.heap_alloc w1 _).1
  simp [World.frozen?, e]

/-- Behind a store at s the row reads: true at s, else as before. -/
theorem row_set (wr : World) (H n s : Nat) (f : Nat → Bool) (hs : s < n) (hcl : ∀ j : Nat, j < n → wr.cell? ⟨H, j, none⟩ = some (.bool (f j))) :
    ∀ j : Nat, j < n → (wr.setCell ⟨H, s, none⟩ (.bool true)).cell? ⟨H, j, none⟩ = some (.bool (if j = s then true else f j)) := by
  intro j hj
  by_cases h : j = s
  · subst h
    rw [if_pos rfl]
    exact World.cell?_setCell_same _ _ _ (hcl j hj)
  · rw [if_neg h, World.cell?_setCell_other _ _ _ _ (by intro e; cases e; exact h rfl)]
    exact hcl j hj

/-- The slot of round m has not been hit in an earlier round. -/
theorem not_hit (k n m s : Nat) (start id : Int) (f : Nat → Bool) (hk : k ≤ 16) (hn : 2 ^ k = n) (hm : m < n) (hs : s < n)
    (hid : id % (n : Int) = (start + m) % (n : Int)) (hsl : slotv id (n : Int) = (s : Int))
    (hhit : ∀ j : Nat, j < n → f j = true → ∃ q : Nat, q < m ∧ slotv (start + q) (n : Int) = (j : Int)) : f s = false := by
  cases h : f s with
  | false => rfl
  | true =>
    obtain ⟨q, hq, e⟩ := hhit s hs h
    have e2 : slotv (start + q) (n : Int) = slotv (start + m) (n : Int) := by rw [e, ← hsl]; exact slotv_congr _ _ _ hid
    have e3 : (start + q) % (n : Int) = (start + m) % (n : Int) := by
      rw [← hn] at e2 ⊢
      exact apart k hk _ _ e2
    have e4 : ((start + m) - (start + q)) % (n : Int) = 0 := Int.emod_eq_emod_iff_emod_sub_eq_zero.1 e3.symm
    have e5 : (start + m) - (start + q) = ((m - q : Nat) : Int) := by omega
    rw [e5] at e4
    have e6 : ((m - q : Nat) : Int) % (n : Int) = ((m - q : Nat) : Int) := Int.emod_eq_of_lt (by omega) (by omega)
    omega

theorem hit_next (n m s : Nat) (start id : Int) (f : Nat → Bool)
    (hid : id % (n : Int) = (start + m) % (n : Int)) (hsl : slotv id (n : Int) = (s : Int))
    (hhit : ∀ j : Nat, j < n → f j = true → ∃ q : Nat, q < m ∧ slotv (start + q) (n : Int) = (j : Int)) :
    ∀ j : Nat, j < n → (if j = s then true else f j) = true → ∃ q : Nat, q < m + 1 ∧ slotv (start + q) (n : Int) = (j : Int) := by
  intro j hj h
  by_cases e : j = s
  · exact ⟨m, by omega, by rw [e, ← hsl]; exact (slotv_congr _ _ _ hid).symm⟩
  · rw [if_neg e] at h
    obtain ⟨q, hq, hv⟩ := hhit j hj h
    exact ⟨q, by omega, hv⟩

theorem id_next (k n m : Nat) (start id : Int) (hk : k ≤ 16) (hn : 2 ^ k = n) (hid : id % (n : Int) = (start + m) % (n : Int)) :
    wrap32 (id + 1) % (n : Int) = (start + ((m + 1 : Nat) : Int)) % (n : Int) := by
  rw [← hn] at hid ⊢
  rw [wrap32_mod k hk, Int.add_emod, hid, ← Int.add_emod]
  congr 1
  omega

set_option maxHeartbeats 400000 in
theorem sends5 (n k : Nat) (start : Int) (hk : k ≤ 16) (hn : 2 ^ k = n) (w : World) :
    Calls Try.prog 5 #[.int .i64 (n : Int), .int .i32 start] w fun e w' => e = .returned (.bool true) ∧ Grown w w' := by
  have h1 : 1 ≤ n := by rw [← hn]; exact Nat.one_le_two_pow
  have h2 : n ≤ 65536 := by rw [← hn]; exact Nat.pow_le_pow_right (n := 2) (by decide) hk
  have c4 : (bits .and .i64 (n : Int) ((n : Int) - 1) != 0) = false := by rw [← hn, Slot.and_of_pow k hk]; rfl
  have d1 : decide ((n : Int) < 1) = false := by simp; omega
  have d2 : decide ((65536 : Int) < (n : Int)) = false := by simp; omega
  have Hn : Hid (2 ^ k = n) := hn
  clear hn
  obtain ⟨i0, hi, hz0, hz1, hz2⟩ := info_parts info4
  have hmk := fun (w : World) => run_make (P := Try.prog) w 35 4 i0 _ Try.underlying35 hi hz0 .i64 .i64 (n : Int) (n : Int) (by omega) (by omega) (by rw [hz2]; omega) (by omega)
  go_enter Try.func5, Try.ntmps5
  go_wp2_with fail
  refine (new11 n h2 _).mono ?_
  rintro e w1 ⟨rfl, hs, ⟨a, c, hc⟩, hg⟩
  go_wp2_with fail
  have hc2 : (w1.alloc (.cells (madeCells #[.bool false] n) 4)).cell? ⟨w.heap.size + 1, 0, none⟩ = some (.slice a n c) := by
    rw [World.cell?_alloc_past _ _ _ (by show w.heap.size + 1 < w1.heap.size; omega)]; exact hc
  go_loopw [7, 8] (fun d i wr => ∃ (m : Nat) (id : Int) (f : Nat → Bool), m ≤ n ∧ i = .int .i64 m ∧ d = .int .i32 id ∧ Hid (id % (n : Int) = (start + m) % (n : Int)) ∧
      Hid (∀ j : Nat, j < n → wr.cell? ⟨w.heap.size + 2, j, none⟩ = some (.bool (f j))) ∧ Hid (∀ j : Nat, wr.frozen? ⟨w.heap.size + 2, j, none⟩ = false) ∧
      Hid (∀ j : Nat, j < n → f j = true → ∃ q : Nat, q < m ∧ slotv (start + q) (n : Int) = (j : Int)) ∧ wr.cell? ⟨w.heap.size + 1, 0, none⟩ = some (.slice a n c) ∧ Grown w wr)
    (fun _ i _ => n - (intOf i).toNat)
  case atStart => exact ⟨0, start, fun _ => false, Nat.zero_le _, rfl, rfl, by simp [Hid], fun j hj => made_at w1 n _ j hs hj, fun j => made_free w1 n _ j hs, fun _ _ h => by simp at h, hc2, hg.alloc _ _⟩
  case round =>
    obtain ⟨m, id, f, hm, rfl, rfl, hid, hcl, hfr, hhit, hcr, hgr⟩ := hrel
    clear hc2 hc hg hmk
    by_cases hlt : m < n
    · have hb := slotv_bounds k id
      rw [Hn.out] at hb
      obtain ⟨s, hsl⟩ := Int.eq_ofNat_of_zero_le hb.1
      have hsn : s < n := by omega
      have hf := not_hit k n m s start id f hk Hn.out hlt hsn hid.out hsl hhit.out
      have hcs : wr.cell? ⟨w.heap.size + 2, s, none⟩ = some (.bool false) := by rw [← hf]; exact hcl.out s hsn
      have hfs : wr.frozen? ⟨w.heap.size + 2, s, none⟩ = false := hfr.out s
      have Hsl : Hid (slotv id (n : Int) = (s : Int)) := hsl
      clear hsl hb hf
      go_wp2_with fail
      refine (slot12n _ _ _ a n k c hk Hn.out _ hcr).mono ?_
      rintro e w2 ⟨rfl, rfl⟩
      rw [Hsl.out]
      go_wp2
      go_roundw
      case rel =>
        exact ⟨m + 1, wrap32 (id + 1), fun j => if j = s then true else f j, by omega, by go_num, rfl, id_next k n m start id hk Hn.out hid.out, row_set wr _ n s f hsn hcl.out,
          fun j => (World.frozen?_setCell _ _ _ _).trans (hfr.out j), hit_next n m s start id f hid.out Hsl.out hhit.out,
          (World.cell?_setCell_other _ _ _ _ (by intro e; have := congrArg Addr.block e; simp at this)).trans hcr, hgr.setCell (by show w.heap.size ≤ w.heap.size + 2; omega) _⟩
      case measure => simp [intOf]; omega
    · have : m = n := by omega
      subst this
      go_wp2
      go_ret
      exact ⟨rfl, hgr⟩
end Go.Proofs.Qxb6618527a.Slot

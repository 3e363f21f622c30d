/-
  THE WALKS that both laws on 'slot' share: '(*meetings).slot' (15), 'ZZslotOf' (12), 'ZZnewMeetings' (11).
-/
import Derived.Test.Qxb6618527aRows
import Derived.Test.Qxb6618527aSlotPlain
import Derived.WalkKit
namespace Go.Proofs.Qxb6618527a.Slot
open Go.RowKit

theorem info69 : (Try.prog.info? 69).map (fun i => (i.zero, i.size, i.bytes)) = some (some (.agg #[.int .i32 0, .int .u64 0]), 2, 16) := by kernel_rfl

/-- '(*meetings).slot': at a table of 2^k cells, k at most 16. -/
theorem slot15 (b off : Nat) (id : Int) (a : Option Addr) (k c : Nat) (hk : k ≤ 16) (w : World) (hc : w.cell? ⟨b, off, none⟩ = some (.slice a (2 ^ k) c)) :
    Calls Try.prog 15 #[.pointer (some ⟨b, off, none⟩), .int .i32 id] w fun e w' => e = .returned (.int .i64 (slotv id ((2 ^ k : Nat) : Int))) ∧ w = w' := by
  have e := slot_bits k hk id
  have hp : 1 ≤ 2 ^ k := Nat.one_le_two_pow
  have hle : 2 ^ k ≤ 2 ^ 16 := Nat.pow_le_pow_right (by decide) hk
  generalize hn : 2 ^ k = n at *
  have He : Hid (bits .and .i64 (hash id) ((n : Int) - 1) = slotv id (n : Int)) := e
  clear hn e
  go_enter Try.func15, Try.ntmps15
  go_wp2
  go_ret
  exact ⟨congrArg (fun x => Ending.returned (.int .i64 x)) He.out, rfl⟩

theorem slot12 (b off : Nat) (id : Int) (a : Option Addr) (k c : Nat) (hk : k ≤ 16) (w : World) (hc : w.cell? ⟨b, off, none⟩ = some (.slice a (2 ^ k) c)) :
    Calls Try.prog 12 #[.pointer (some ⟨b, off, none⟩), .int .i32 id] w fun e w' => e = .returned (.int .i64 (slotv id ((2 ^ k : Nat) : Int))) ∧ w = w' := by
  go_enter Try.func12, Try.ntmps12
  go_wp2_with fail
  refine (slot15 b off id a k c hk w hc).mono ?_
  rintro e w' ⟨rfl, rfl⟩
  go_wp2
  go_ret
  exact ⟨rfl, rfl⟩

theorem slot12n (b off : Nat) (id : Int) (a : Option Addr) (n k c : Nat) (hk : k ≤ 16) (hn : 2 ^ k = n) (w : World) (hc : w.cell? ⟨b, off, none⟩ = some (.slice a n c)) :
    Calls Try.prog 12 #[.pointer (some ⟨b, off, none⟩), .int .i32 id] w fun e w' => e = .returned (.int .i64 (slotv id (n : Int))) ∧ w = w' := by
  subst hn
  exact slot12 b off id a k c hk w hc

/-- 'ZZnewMeetings': two new blocks, the slots and the table. -/
theorem new11 (n : Nat) (h1 : n ≤ 65536) (w : World) :
    Calls Try.prog 11 #[.int .i64 (n : Int)] w fun e w' => e = .returned (.pointer (some ⟨w.heap.size + 1, 0, none⟩)) ∧ w'.heap.size = w.heap.size + 2 ∧
      (∃ a c, w'.cell? ⟨w.heap.size + 1, 0, none⟩ = some (.slice a n c)) ∧ Grown w w' := by
  obtain ⟨i0, hi, hz0, hz1, hz2⟩ := info_parts info69
  have hmk := fun (w : World) => run_make (P := Try.prog) w 47 69 i0 _ Try.underlying47 hi hz0 .i64 .i64 (n : Int) (n : Int) (by omega) (by omega) (by rw [hz2]; omega) (by omega)
  go_enter Try.func11, Try.ntmps11
  go_wp2
  go_ret
  refine ⟨rfl, by simp, ⟨some ⟨w.heap.size, 0, none⟩, n, ?_⟩, ?_⟩
  · simp [go_sem]
  · exact ((Grown.refl _).alloc _ _).alloc _ _
end Go.Proofs.Qxb6618527a.Slot

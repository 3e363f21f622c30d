/-
  THE WALKS of 'typeIdent' (16) and of the shims that call it (8 to 15): what 'FnTypeIdentUnwrapsOneIndexOnly' needs.
-/
import Derived.Test.Qxb6618574aRows
import Derived.WalkKit
namespace Go.Proofs.Qxb6618574a.Ident
open Go.RowKit
theorem yes40 (v : Value) (w : World) : (Instr.typeAssert (.iface 40 v) 42 40 true).run Try.prog w = .ok (.tuple #[v, .bool true]) w := by kernel_rfl
theorem yes29 (v : Value) (w : World) : (Instr.typeAssert (.iface 29 v) 42 29 true).run Try.prog w = .ok (.tuple #[v, .bool true]) w := by kernel_rfl
theorem no40_29 (v : Value) (w : World) : (Instr.typeAssert (.iface 40 v) 42 29 true).run Try.prog w = .ok (.tuple #[.pointer none, .bool false]) w := by kernel_rfl
theorem no45_40 (v : Value) (w : World) : (Instr.typeAssert (.iface 45 v) 42 40 true).run Try.prog w = .ok (.tuple #[.pointer none, .bool false]) w := by kernel_rfl
theorem no45_54 (v : Value) (w : World) : (Instr.typeAssert (.iface 45 v) 42 54 true).run Try.prog w = .ok (.tuple #[.pointer none, .bool false]) w := by kernel_rfl
theorem no45_29 (v : Value) (w : World) : (Instr.typeAssert (.iface 45 v) 42 29 true).run Try.prog w = .ok (.tuple #[.pointer none, .bool false]) w := by kernel_rfl
theorem no48_40 (v : Value) (w : World) : (Instr.typeAssert (.iface 48 v) 42 40 true).run Try.prog w = .ok (.tuple #[.pointer none, .bool false]) w := by kernel_rfl
theorem no48_54 (v : Value) (w : World) : (Instr.typeAssert (.iface 48 v) 42 54 true).run Try.prog w = .ok (.tuple #[.pointer none, .bool false]) w := by kernel_rfl
theorem no48_29 (v : Value) (w : World) : (Instr.typeAssert (.iface 48 v) 42 29 true).run Try.prog w = .ok (.tuple #[.pointer none, .bool false]) w := by kernel_rfl
theorem no51_40 (v : Value) (w : World) : (Instr.typeAssert (.iface 51 v) 42 40 true).run Try.prog w = .ok (.tuple #[.pointer none, .bool false]) w := by kernel_rfl
theorem no51_54 (v : Value) (w : World) : (Instr.typeAssert (.iface 51 v) 42 54 true).run Try.prog w = .ok (.tuple #[.pointer none, .bool false]) w := by kernel_rfl
theorem no51_29 (v : Value) (w : World) : (Instr.typeAssert (.iface 51 v) 42 29 true).run Try.prog w = .ok (.tuple #[.pointer none, .bool false]) w := by kernel_rfl
theorem nil_40 (w : World) : (Instr.typeAssert .nilIface 42 40 true).run Try.prog w = .ok (.tuple #[.pointer none, .bool false]) w := by kernel_rfl
theorem nil_54 (w : World) : (Instr.typeAssert .nilIface 42 54 true).run Try.prog w = .ok (.tuple #[.pointer none, .bool false]) w := by kernel_rfl
theorem nil_29 (w : World) : (Instr.typeAssert .nilIface 42 29 true).run Try.prog w = .ok (.tuple #[.pointer none, .bool false]) w := by kernel_rfl

theorem ti16_index (b : Nat) (p : Value) (w : World) (h : w.cell? ⟨b, 0, none⟩ = some (.iface 29 p)) :
    Calls Try.prog 16 #[.iface 40 (.pointer (some ⟨b, 0, none⟩))] w fun e w' => e = .returned p ∧ w = w' := by
  have q1 := yes40
  have q2 := yes29
  go_enter Try.func16, Try.ntmps16
  go_wp2
  go_ret
  exact ⟨rfl, rfl⟩

/-- T[A][B], p.T[A]: what lies behind one index is no name. -/
theorem ti16_index40 (b : Nat) (p : Value) (w : World) (h : w.cell? ⟨b, 0, none⟩ = some (.iface 40 p)) :
    Calls Try.prog 16 #[.iface 40 (.pointer (some ⟨b, 0, none⟩))] w fun e w' => e = .returned (.pointer none) ∧ w = w' := by
  have q1 := yes40
  have q2 := no40_29
  go_enter Try.func16, Try.ntmps16
  go_wp2
  go_ret
  exact ⟨rfl, rfl⟩

theorem ti16_index45 (b : Nat) (p : Value) (w : World) (h : w.cell? ⟨b, 0, none⟩ = some (.iface 45 p)) :
    Calls Try.prog 16 #[.iface 40 (.pointer (some ⟨b, 0, none⟩))] w fun e w' => e = .returned (.pointer none) ∧ w = w' := by
  have q1 := yes40
  have q2 := no45_29
  go_enter Try.func16, Try.ntmps16
  go_wp2
  go_ret
  exact ⟨rfl, rfl⟩

theorem ti16_sel (p : Value) (w : World) : Calls Try.prog 16 #[.iface 45 p] w fun e w' => e = .returned (.pointer none) ∧ w = w' := by
  have q1 := no45_40
  have q2 := no45_54
  have q3 := no45_29
  go_enter Try.func16, Try.ntmps16
  go_wp2
  go_ret
  exact ⟨rfl, rfl⟩

theorem ti16_star (p : Value) (w : World) : Calls Try.prog 16 #[.iface 48 p] w fun e w' => e = .returned (.pointer none) ∧ w = w' := by
  have q1 := no48_40
  have q2 := no48_54
  have q3 := no48_29
  go_enter Try.func16, Try.ntmps16
  go_wp2
  go_ret
  exact ⟨rfl, rfl⟩

theorem ti16_paren (p : Value) (w : World) : Calls Try.prog 16 #[.iface 51 p] w fun e w' => e = .returned (.pointer none) ∧ w = w' := by
  have q1 := no51_40
  have q2 := no51_54
  have q3 := no51_29
  go_enter Try.func16, Try.ntmps16
  go_wp2
  go_ret
  exact ⟨rfl, rfl⟩

theorem ti16_nil (w : World) : Calls Try.prog 16 #[.nilIface] w fun e w' => e = .returned (.pointer none) ∧ w = w' := by
  have q1 := nil_40
  have q2 := nil_54
  have q3 := nil_29
  go_enter Try.func16, Try.ntmps16
  go_wp2
  go_ret
  exact ⟨rfl, rfl⟩

theorem new8 (s : ByteArray) (w : World) : Calls Try.prog 8 #[.string s] w fun e w' => e = .returned (.pointer (some ⟨w.heap.size, 0, none⟩)) ∧ Grown w w' := by
  go_enter Try.func8, Try.ntmps8
  go_wp2
  go_ret
  exact ⟨rfl, (Grown.refl _).alloc _ _⟩

theorem index9 (p q : Option Addr) (w : World) : Calls Try.prog 9 #[.pointer p, .pointer q] w fun e w' => e = .returned (.pointer p) ∧ Grown w w' := by
  go_enter Try.func9, Try.ntmps9
  go_wp2_with fail
  refine (ti16_index _ (.pointer p) _ (by simp [go_sem])).mono ?_
  rintro e w1 ⟨rfl, rfl⟩
  go_wp2
  go_ret
  exact ⟨rfl, (Grown.refl _).alloc _ _⟩

theorem index10 (p q r : Option Addr) (w : World) : Calls Try.prog 10 #[.pointer p, .pointer q, .pointer r] w fun e w' => e = .returned (.pointer none) ∧ Grown w w' := by
  go_enter Try.func10, Try.ntmps10
  go_wp2_with fail
  refine (ti16_index40 _ (.pointer (some ⟨w.heap.size, 0, none⟩)) _ (by simp [go_sem])).mono ?_
  rintro e w1 ⟨rfl, rfl⟩
  go_wp2
  go_ret
  exact ⟨rfl, ((Grown.refl _).alloc _ _).alloc _ _⟩

theorem sel11 (p q : Option Addr) (w : World) : Calls Try.prog 11 #[.pointer p, .pointer q] w fun e w' => e = .returned (.pointer none) ∧ Grown w w' := by
  go_enter Try.func11, Try.ntmps11
  go_wp2_with fail
  refine (ti16_sel _ _).mono ?_
  rintro e w1 ⟨rfl, rfl⟩
  go_wp2
  go_ret
  exact ⟨rfl, (Grown.refl _).alloc _ _⟩

theorem index12 (p q r : Option Addr) (w : World) : Calls Try.prog 12 #[.pointer p, .pointer q, .pointer r] w fun e w' => e = .returned (.pointer none) ∧ Grown w w' := by
  go_enter Try.func12, Try.ntmps12
  go_wp2_with fail
  refine (ti16_index45 _ (.pointer (some ⟨w.heap.size, 0, none⟩)) _ (by simp [go_sem])).mono ?_
  rintro e w1 ⟨rfl, rfl⟩
  go_wp2
  go_ret
  exact ⟨rfl, ((Grown.refl _).alloc _ _).alloc _ _⟩

theorem star13 (p : Option Addr) (w : World) : Calls Try.prog 13 #[.pointer p] w fun e w' => e = .returned (.pointer none) ∧ Grown w w' := by
  go_enter Try.func13, Try.ntmps13
  go_wp2_with fail
  refine (ti16_star _ _).mono ?_
  rintro e w1 ⟨rfl, rfl⟩
  go_wp2
  go_ret
  exact ⟨rfl, (Grown.refl _).alloc _ _⟩

theorem paren14 (p : Option Addr) (w : World) : Calls Try.prog 14 #[.pointer p] w fun e w' => e = .returned (.pointer none) ∧ Grown w w' := by
  go_enter Try.func14, Try.ntmps14
  go_wp2_with fail
  refine (ti16_paren _ _).mono ?_
  rintro e w1 ⟨rfl, rfl⟩
  go_wp2
  go_ret
  exact ⟨rfl, (Grown.refl _).alloc _ _⟩

theorem nil15 (w : World) : Calls Try.prog 15 #[] w fun e w' => e = .returned (.pointer none) ∧ Grown w w' := by
  go_enter Try.func15, Try.ntmps15
  go_wp2_with fail
  refine (ti16_nil _).mono ?_
  rintro e w1 ⟨rfl, rfl⟩
  go_wp2
  go_ret
  exact ⟨rfl, Grown.refl _⟩

end Go.Proofs.Qxb6618574a.Ident

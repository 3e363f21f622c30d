/-
  THE WALKS of the shims over 'runtimePanic' (8 to 11), of the bound on lengths (7), and of the two laws (3, 4).
-/
import Derived.Test.Qxb6618866aRecover
namespace Go.Proofs.Qxb6618866a.Rec
open Go.RowKit

theorem grown_trans {a b c : World} (h : Grown a b) (k : Grown b c) : Grown a c :=
  ⟨World.keptBut_trans h.1 k.1, fun x => (k.2.1 x).trans (h.2.1 x), Nat.le_trans h.2.2 k.2.2⟩

theorem yes3 (v : Value) (w : World) : (Instr.typeAssert (.iface 3 v) 20 3 true).run Try.prog w = .ok (.tuple #[v, .bool true]) w := by kernel_rfl
theorem yes9 (v : Value) (w : World) : (Instr.typeAssert (.iface 9 v) 20 9 true).run Try.prog w = .ok (.tuple #[v, .bool true]) w := by kernel_rfl
theorem eql20n (w : World) : (binOp .eql 20 .nilIface .nilIface).run Try.prog w = .ok (.bool true) w := by kernel_rfl

theorem int8 (n : Int) (w : World) : Calls Try.prog 8 #[.int .i64 n] w fun e w' => e = .returned (.tuple #[.int .i64 n, .bool true]) ∧ Grown w w' := by
  have hmf := mk
  have q := yes3
  go_enter Try.func8, Try.ntmps8
  go_wp2_with fail
  refine (rp27 w.heap.size n _ (by simp [go_sem]) (by simp)).mono ?_
  rintro e w1 ⟨rfl, hg⟩
  go_wp2
  go_ret2
  exact ⟨rfl, grown_trans ((Grown.refl _).alloc _ _) hg⟩

theorem str9 (s : ByteArray) (w : World) : Calls Try.prog 9 #[.string s] w fun e w' => e = .returned (.tuple #[.string s, .bool true]) ∧ Grown w w' := by
  have hmf := mk
  have q := yes9
  go_enter Try.func9, Try.ntmps9
  go_wp2_with fail
  refine (rp28 w.heap.size s _ (by simp [go_sem]) (by simp)).mono ?_
  rintro e w1 ⟨rfl, hg⟩
  go_wp2
  go_ret2
  exact ⟨rfl, grown_trans ((Grown.refl _).alloc _ _) hg⟩

theorem run10 (w : World) : Calls Try.prog 10 #[] w fun e w' => e = .returned (.tuple #[.int .i64 1, .bool true]) ∧ Grown w w' := by
  have hmf := mk
  have q := eql20n
  go_enter Try.func10, Try.ntmps10
  go_wp2_with fail
  refine (rp29 w.heap.size _ (by simp [go_sem]) (by simp [go_sem]) (by simp)).mono ?_
  rintro e w1 ⟨rfl, h1, h2, h3⟩
  have hg := h3 w ((Grown.refl _).alloc _ _) (Nat.le_refl _)
  have h4 : (w1.setCell ⟨w.heap.size, 0, none⟩ (.int .i64 1)).cell? ⟨w.heap.size, 0, none⟩ = some (.int .i64 1) := World.cell?_setCell_same _ _ _ h1
  clear h3
  go_wp2
  go_region
  all_goals go_wp2
  all_goals (refine bodyPost_ret (v := .tuple #[.int .i64 1, .bool true]) (by simp [results, Try.results10, go_sem, h4]) rfl ?_)
  all_goals exact ⟨rfl, (hg.setCell (Nat.le_refl _) _).drew⟩

theorem run11 (n : Int) (w : World) : Calls Try.prog 11 #[.int .i64 n] w fun e w' => e = .returned (.tuple #[.int .i64 1, .int .i64 n, .bool true]) ∧ Grown w w' := by
  have hmf := mk
  have q := yes3
  go_enter Try.func11, Try.ntmps11
  go_wp2_with fail
  refine (rp30 (w.heap.size + 1) w.heap.size n _ (by omega) (by simp [go_sem]) (by simp [go_sem]) (by simp) (by simp [go_sem]) (by simp; omega)).mono ?_
  rintro e w1 ⟨rfl, h1, h2, h3⟩
  have hg := h3 w (((Grown.refl _).alloc _ _).alloc _ _) (by omega)
  have h4 : (w1.setCell ⟨w.heap.size + 1, 0, none⟩ (.int .i64 1)).cell? ⟨w.heap.size + 1, 0, none⟩ = some (.int .i64 1) := World.cell?_setCell_same _ _ _ h1
  clear h3
  go_wp2
  refine bodyPost_ret (v := .tuple #[.int .i64 1, .int .i64 n, .bool true]) (by simp [results, Try.results11, go_sem, h4]) rfl ?_
  exact ⟨rfl, hg.setCell (by show w.heap.size ≤ w.heap.size + 1; omega) _⟩

/-- What the bound says (7): something, and it turns nothing. -/
def Some7 (w : World) (e : Ending) (w' : World) : Prop := (∃ r : Bool, e = .returned (.bool r)) ∧ w = w'

theorem size7 (n : Int) (s : ByteArray) (w : World) : Calls Try.prog 7 #[.int .i64 n, .string s] w fun e w' => Some7 w e w' := by
  go_enter Try.func7, Try.ntmps7
  go_wp2
  all_goals (go_ret; exact ⟨⟨_, rfl⟩, rfl⟩)

theorem law3 (n : Int) (s : ByteArray) (w : World) : Calls Try.prog 3 #[.int .i64 n, .string s] w fun e w' => e = .returned (.bool true) ∧ Grown w w' := by
  have hnot : ∀ (x : Bool) (w : World), (Op.unary .not (.bool x)).run Try.prog w = .ok (.bool (!x)) w := fun _ _ => rfl
  have e1 : (n == n) = true := by simp
  have e2 : (s.toList == s.toList) = true := by simp
  go_enter Try.func3, Try.ntmps3
  go_wp2_with fail
  refine (size7 n s w).mono ?_
  rintro e w1 ⟨⟨r, rfl⟩, rfl⟩
  cases r with
  | false =>
    go_wp2
    go_ret
    exact ⟨rfl, Grown.refl _⟩
  | true =>
    by_cases h1 : (1048576 : Int) < (s.size : Int)
    · go_wp2
      go_ret
      exact ⟨rfl, Grown.refl _⟩
    go_wp2_with fail
    refine (int8 n _).mono ?_
    rintro e w2 ⟨rfl, g1⟩
    go_wp2_with fail
    refine (str9 s _).mono ?_
    rintro e w3 ⟨rfl, g2⟩
    go_wp2
    go_ret
    exact ⟨rfl, grown_trans g1 g2⟩

theorem law4 (n : Int) (w : World) : Calls Try.prog 4 #[.int .i64 n] w fun e w' => e = .returned (.bool true) ∧ Grown w w' := by
  have e1 : (n == n) = true := by simp
  go_enter Try.func4, Try.ntmps4
  go_wp2_with fail
  refine (run10 _).mono ?_
  rintro e w1 ⟨rfl, g1⟩
  go_wp2_with fail
  refine (run11 n _).mono ?_
  rintro e w2 ⟨rfl, g2⟩
  go_wp2
  go_ret
  exact ⟨rfl, grown_trans g1 g2⟩
end Go.Proofs.Qxb6618866a.Rec

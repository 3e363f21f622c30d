/-
  THE WALK of '(Field).Lines' (6).
-/
import Derived.Test.Qxb6618574aRows
import Derived.Test.Qxb6618574aLinesPlain
import Derived.WalkKit
import Derived.BigQuiet
namespace Go.Proofs.Qxb6618574a.Lines
open Go.RowKit

theorem grown_drewN {W w : World} (h : Grown W w) (n : Nat) : Grown W (w.drewN n) := h
theorem grown_trans {a b c : World} (h : Grown a b) (k : Grown b c) : Grown a c :=
  ⟨World.keptBut_trans h.1 k.1, fun x => (k.2.1 x).trans (h.2.1 x), Nat.le_trans h.2.2 k.2.2⟩

theorem lines6 (v : Value) (o s n : Int) (w : World) (ho : 0 ≤ o) (hs : 0 ≤ s) (hn : 1 ≤ n) (hos : o + s ≤ 9223372036854775807) (hn2 : n ≤ 9223372036854775807) :
    Calls Try.prog 6 #[.agg #[v, .int .i64 o, .int .i64 s], .int .i64 n] w fun e w' => e = .returned (.tuple #[.int .i64 (fstL o n), .int .i64 (lstL o s n)]) ∧ Grown w w' := by
  have hz : ¬ n = 0 := by omega
  by_cases h0 : s = 0
  · subst h0
    rw [lst_zero]
    unfold fstL
    have hb := (fst_bounds o n ho hn).2.1
    unfold fstL at hb
    have hb0 := div_nonneg' o n ho hn
    go_enter Try.func6, Try.ntmps6
    go_wp2
    go_ret2
    exact ⟨rfl, (Grown.refl _).alloc _ _⟩
  · have hs0 : (s == 0) = false := by simp; omega
    unfold lstL fstL
    rw [if_neg h0]
    have hb := div_le o n ho
    have hb0 := div_nonneg' o n ho hn
    have hc := div_le (o + s - 1) n (by omega)
    have hc0 := div_nonneg' (o + s - 1) n (by omega) hn
    go_enter Try.func6, Try.ntmps6
    go_wp2
    go_quiet (fail)
    go_wp2
    go_ret2
    exact ⟨rfl, grown_drewN ((Grown.refl _).alloc _ _) _⟩
end Go.Proofs.Qxb6618574a.Lines

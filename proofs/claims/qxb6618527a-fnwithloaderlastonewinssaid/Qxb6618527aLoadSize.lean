/-
  THE WALK of 'zzBytes_FnWithLoaderLastOneWins' (6): whatever it answers; where it answers true, no doc is longer than 1<<20.
-/
import Derived.Test.Qxb6618527aLoadClone
namespace Go.Proofs.Qxb6618527a.Load
open Go.RowKit

theorem size6 (fa : Bool) (mb : Int) (a : Option Addr) (n c : Nat) (u : ByteArray) (A : Nat → Option Addr) (L C : Nat → Nat) (B : Nat → Nat → Int) (w : World) (hD : Docs w a n A L C B) :
    Calls Try.prog 6 #[.bool fa, .int .i64 mb, .slice a n c, .string u] w fun e w' => ∃ r, e = .returned (.bool r) ∧ w = w' ∧ (r = true → ∀ i, i < n → L i ≤ 1048576) := by
  have HD := hide hD
  clear hD
  by_cases hn : n ≤ 1048576
  · have hn1 : decide ((1048576 : Int) < (n : Int)) = false := by simp; omega
    go_enter Try.func6, Try.ntmps6
    go_wp2_with fail
    go_loop [9, 10] (fun z i => ∃ (k : Nat) (Z : Int), k ≤ n ∧ i = .int .i64 k ∧ z = .int .i64 Z ∧ 0 ≤ Z ∧ Z ≤ 1048576 ∧ Hid (∀ j, j < k → L j ≤ 1048576))
      (fun _ i => n - (intOf i).toNat)
    case atStart => exact ⟨0, n, Nat.zero_le _, rfl, rfl, by omega, by omega, fun j hj => absurd hj (by omega)⟩
    case round =>
      obtain ⟨k, Z, hk, rfl, rfl, hz0, hz1, hL⟩ := hrel
      by_cases hlt : k < n
      · obtain ⟨b, off, hx, hc⟩ := HD.out (by omega)
        cases hx
        have hck : w.cell? ⟨b, off + k, none⟩ = some (.slice (A k) (L k) (C k)) := (hc k hlt).1
        clear hc
        generalize hLk : L k = m at *
        have HL := hide hLk
        clear hLk
        go_wp2
        · go_ret
          exact Or.inl ⟨rfl, rfl⟩
        · go_ret
          exact Or.inl ⟨rfl, rfl⟩
        · go_round
          case rel => exact ⟨k + 1, Z + m, by omega, by go_num, rfl, by omega, by omega, fun j hj => by
              by_cases h : j = k
              · subst h; rw [HL.out]; omega
              · exact hL.out j (by omega)⟩
          case measure => simp [intOf]; omega
      · have : k = n := by omega
        subst this
        go_wp2
        · go_ret
          exact Or.inl ⟨rfl, rfl⟩
        · go_ret
          exact Or.inl ⟨rfl, rfl⟩
        · go_ret
          exact Or.inr ⟨rfl, rfl, hL.out⟩
  · go_enter Try.func6, Try.ntmps6
    go_wp2
    go_ret
    exact ⟨false, rfl, rfl, fun h => by cases h⟩

end Go.Proofs.Qxb6618527a.Load

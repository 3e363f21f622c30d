/-
  THE WALK of 'FnWithLoaderLastOneWins' (3): it returns true.
-/
import Derived.Test.Qxb6618527aLoadConfig
namespace Go.Proofs.Qxb6618527a.Load
open Go.RowKit

theorem law3 (fa : Bool) (mb : Int) (a : Option Addr) (n c : Nat) (u : ByteArray) (A : Nat → Option Addr) (L C : Nat → Nat) (B : Nat → Nat → Int) (w : World) (hD : Docs w a n A L C B) :
    Calls Try.prog 3 #[.bool fa, .int .i64 mb, .slice a n c, .string u] w fun e w' => e = .returned (.bool true) ∧ Below w.heap.size w w' := by
  have HD := hide hD
  clear hD
  have hnot : ∀ (x : Bool) (w : World), (Op.unary .not (.bool x)).run Try.prog w = .ok (.bool (!x)) w := fun _ _ => rfl
  go_enter Try.func3, Try.ntmps3
  go_wp2_with fail
  refine (size6 fa mb a n c u A L C B w HD.out).mono ?_
  rintro e w1 ⟨r, rfl, rfl, hr⟩
  cases r with
  | false =>
    go_wp2
    go_ret
    exact ⟨rfl, Below.refl _ _⟩
  | true =>
    have HL := hide (hr rfl)
    clear hr
    by_cases h1 : 1048576 < u.size
    · have h1' : (1048576 : Int) < (u.size : Int) := by omega
      go_wp2
      go_ret
      exact ⟨rfl, Below.refl _ _⟩
    by_cases h2 : 4096 < n
    · have h2' : decide ((4096 : Int) < (n : Int)) = true := by simp; omega
      go_wp2
      go_ret
      exact ⟨rfl, Below.refl _ _⟩
    have h1' : decide ((1048576 : Int) < (u.size : Int)) = false := by simp; omega
    have h2' : decide ((4096 : Int) < (n : Int)) = false := by simp; omega
    go_wp2_with fail
    go_loop [9, 10] (fun z i => ∃ (k : Nat) (Z : Int), k ≤ n ∧ i = .int .i64 k ∧ z = .int .i64 Z ∧ 0 ≤ Z ∧ Z ≤ 2097152) (fun _ i => n - (intOf i).toNat)
    case atStart => exact ⟨0, (u.size : Int) + 24 * (n : Int), Nat.zero_le _, rfl, rfl, by omega, by omega⟩
    case round =>
      obtain ⟨k, Z, hk, rfl, rfl, hz0, hz1⟩ := hrel
      by_cases hlt : k < n
      · obtain ⟨b, off, hx, hc⟩ := HD.out (by omega)
        cases hx
        have hck : w.cell? ⟨b, off + k, none⟩ = some (.slice (A k) (L k) (C k)) := (hc k hlt).1
        have hLk := HL.out k hlt
        clear hc
        generalize L k = m at *
        go_wp2
        · go_ret
          exact ⟨rfl, Below.refl _ _⟩
        · go_round
          case rel => exact ⟨k + 1, Z + m, by omega, by go_num, rfl, by omega, by omega⟩
          case measure => simp [intOf]; omega
      · have : k = n := by omega
        subst this
        have hfa : (fa != fa) = false := by simp
        have hmb : (mb != mb) = false := by simp
        by_cases h0 : k = 0
        · subst h0
          go_wp2_with fail
          refine (clone8 a 0 c A L C B w (by omega) HL.out HD.out).mono ?_
          rintro e w2 ⟨a', c', A', C', rfl, hD2, hb2⟩
          have HD2 := hide hD2
          clear hD2
          go_wp2_with fail
          refine (config9 fa mb a' 0 c' u A' L C' B w2 (by omega) HD2.out).mono ?_
          rintro e w3 ⟨h | h, hb3⟩
          · obtain ⟨_, rfl⟩ := h
            go_wp2_with fail
            go_ret
            exact ⟨rfl, below_trans hb2 hb3⟩
          · omega
        · have hpos : 0 < k := by omega
          obtain ⟨b, off, hx, hc⟩ := HD.out hpos
          cases hx
          have hck : w.cell? ⟨b, off + (k - 1), none⟩ = some (.slice (A (k - 1)) (L (k - 1)) (C (k - 1))) := (hc (k - 1) (by omega)).1
          have hBk := hide (hc (k - 1) (by omega)).2
          have hLk := hide (HL.out (k - 1) (by omega))
          have hk0 : decide ((0 : Int) < (k : Int)) = true := by simp; omega
          have hk1 : ((k : Int) == 0) = false := by simp; omega
          clear hc
          go_wp2_with fail
          refine (clone7 (A (k - 1)) (L (k - 1)) (C (k - 1)) (B (k - 1)) w hLk.out hBk.out).mono ?_
          rintro e w2 ⟨a2, c2, rfl, hB2, hb2⟩
          have HB2 := hide hB2
          clear hB2
          have HDk := hide (HD.out.kept hb2)
          go_wp2_with fail
          refine (clone8 _ k c A L C B w2 (by omega) HL.out HDk.out).mono ?_
          rintro e w3 ⟨a3, c3, A3, C3, rfl, hD3, hb3⟩
          have HD3 := hide hD3
          clear hD3
          go_wp2_with fail
          refine (config9 fa mb a3 k c3 u A3 L C3 B w3 (by omega) HD3.out).mono ?_
          rintro e w4 ⟨h | h, hb4⟩
          · omega
          · obtain ⟨_, rfl⟩ := h
            obtain ⟨b3, off3, hx3, hc3⟩ := HD3.out hpos
            have hG := hide ((hc3 (k - 1) (by omega)).2.kept hb4)
            have hW := hide ((HB2.out.kept hb3).kept hb4)
            clear hc3 hx3
            go_wp2_with fail
            refine (equal10 (A3 (k - 1)) a2 (L (k - 1)) (C3 (k - 1)) c2 (B (k - 1)) w4 hLk.out hG.out hW.out).mono ?_
            rintro e w5 ⟨rfl, hb5⟩
            go_wp2
            go_ret
            exact ⟨rfl, below_trans (below_trans (below_trans hb2 hb3) hb4) hb5⟩
end Go.Proofs.Qxb6618527a.Load

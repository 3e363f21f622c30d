/-
  THE WALK of 'FnTypeIdentUnwrapsOneIndexOnly' (5), and of its bound on lengths (7).
-/
import Derived.Test.Qxb6618574aIdentWalks
import Derived.LaidEqlPtr
namespace Go.Proofs.Qxb6618574a.Ident
open Go.RowKit

theorem grown_trans {a b c : World} (h : Grown a b) (k : Grown b c) : Grown a c :=
  ⟨World.keptBut_trans h.1 k.1, fun x => (k.2.1 x).trans (h.2.1 x), Nat.le_trans h.2.2 k.2.2⟩

/-- What the bound says (7): something, and it turns nothing. -/
def Some7 (w : World) (e : Ending) (w' : World) : Prop := (∃ r : Bool, e = .returned (.bool r)) ∧ w = w'

theorem size7 (s1 s2 s3 s4 : ByteArray) (w : World) : Calls Try.prog 7 #[.string s1, .string s2, .string s3, .string s4] w fun e w' => Some7 w e w' := by
  go_enter Try.func7, Try.ntmps7
  go_wp2
  all_goals (go_ret; exact ⟨⟨_, rfl⟩, rfl⟩)

theorem info38 : (Try.prog.info? 38).isSome = true := by kernel_rfl

/-- A pointer is itself. -/
theorem same29 (a : Addr) (w : World) : (binOp .eql 29 (.pointer (some a)) (.pointer (some a))).run Try.prog w = .ok (.bool true) w := by
  obtain ⟨j, hj⟩ := Option.isSome_iff_exists.1 info38
  exact run_eql_ptr_same w a Try.underlying29 hj

theorem law5 (s1 s2 s3 s4 : ByteArray) (w : World) : Calls Try.prog 5 #[.string s1, .string s2, .string s3, .string s4] w fun e w' => e = .returned (.bool true) ∧ Grown w w' := by
  have hnot : ∀ (x : Bool) (w : World), (Op.unary .not (.bool x)).run Try.prog w = .ok (.bool (!x)) w := fun _ _ => rfl
  have hsame := same29
  go_enter Try.func5, Try.ntmps5
  go_wp2_with fail
  refine (size7 s1 s2 s3 s4 w).mono ?_
  rintro e w1 ⟨⟨r, rfl⟩, rfl⟩
  cases r with
  | false =>
    go_wp2
    go_ret
    exact ⟨rfl, Grown.refl _⟩
  | true =>
    by_cases h1 : (65536 : Int) < (s1.size : Int)
    · go_wp2
      go_ret
      exact ⟨rfl, Grown.refl _⟩
    by_cases h2 : (65536 : Int) < (s2.size : Int)
    · go_wp2
      go_ret
      exact ⟨rfl, Grown.refl _⟩
    by_cases h3 : (65536 : Int) < (s3.size : Int)
    · go_wp2
      go_ret
      exact ⟨rfl, Grown.refl _⟩
    by_cases h4 : (65536 : Int) < (s4.size : Int)
    · go_wp2
      go_ret
      exact ⟨rfl, Grown.refl _⟩
    have d1 : decide ((65536 : Int) < (s1.size : Int)) = false := by simpa using h1
    have d2 : decide ((65536 : Int) < (s2.size : Int)) = false := by simpa using h2
    have d3 : decide ((65536 : Int) < (s3.size : Int)) = false := by simpa using h3
    have d4 : decide ((65536 : Int) < (s4.size : Int)) = false := by simpa using h4
    go_wp2_with fail
    refine (new8 s1 _).mono ?_
    rintro e w1 ⟨rfl, g1⟩
    go_wp2_with fail
    refine (new8 s2 _).mono ?_
    rintro e w2 ⟨rfl, g2⟩
    go_wp2_with fail
    refine (new8 s3 _).mono ?_
    rintro e w3 ⟨rfl, g3⟩
    go_wp2_with fail
    refine (new8 s4 _).mono ?_
    rintro e w4 ⟨rfl, g4⟩
    go_wp2_with fail
    refine (index9 _ _ _).mono ?_
    rintro e w5 ⟨rfl, g5⟩
    go_wp2_with fail
    refine (index10 _ _ _ _).mono ?_
    rintro e w6 ⟨rfl, g6⟩
    go_wp2_with fail
    refine (sel11 _ _ _).mono ?_
    rintro e w7 ⟨rfl, g7⟩
    go_wp2_with fail
    refine (index12 _ _ _ _).mono ?_
    rintro e w8 ⟨rfl, g8⟩
    go_wp2_with fail
    refine (star13 _ _).mono ?_
    rintro e w9 ⟨rfl, g9⟩
    go_wp2_with fail
    refine (paren14 _ _).mono ?_
    rintro e w10 ⟨rfl, g10⟩
    go_wp2_with fail
    refine (nil15 _).mono ?_
    rintro e w11 ⟨rfl, g11⟩
    go_wp2
    go_ret
    exact ⟨rfl, grown_trans (grown_trans (grown_trans (grown_trans (grown_trans (grown_trans (grown_trans (grown_trans (grown_trans (grown_trans g1 g2) g3) g4) g5) g6) g7) g8) g9) g10) g11⟩

end Go.Proofs.Qxb6618574a.Ident

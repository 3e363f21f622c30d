/-
  THE SHELL OF A PROOF OF 'Rows.FnSlotStepsByTheOddConstantAndRepeatsEveryTableLengthSaid' ('example.com/assay/assay/zzlaws_root_b1.FnSlotStepsByTheOddConstantAndRepeatsEveryTableLength'), WRITTEN BY PROGRAM (proof-skeleton.mjs) off the guide's own print for that function.
  The walk (step 1) is filled by hand; all else is the guide's template at this function's number and types.
-/
import Derived.Test.Qxb6618527aRows
import Derived.WalkKit
import Derived.ProofKit
import Derived.OpenShut
import Derived.ShutString
import Derived.Test.Qxb6618527aSlotWalks
namespace Go.Proofs.Qxb6618527a.fnSlotStepsByTheOddConstantAndRepeatsEveryTableLength
open Go.ChangeShapes Go.WideShapes Go.ChangeAt Go.RowKit
open Go.ChangeMaps (open_string shut_string)
set_option linter.unusedVariables false      -- a walk need not use every 'w<i>' (that an integer argument fits its kind)

theorem own : ownKnob Try.prog.godebug = none := by kernel_rfl

/-- The way on which n is a power of two. -/
theorem at_pow (n k : Nat) (id : Int) (hk : k ≤ 16) (hn : 2 ^ k = n) (w : World) :
    Calls Try.prog 4 #[.int .i64 (n : Int), .int .i32 id] w fun e w' => e = .returned (.bool true) ∧ Grown w w' := by
  have h1 : 1 ≤ n := by rw [← hn]; exact Nat.one_le_two_pow
  have h2 : n ≤ 65536 := by rw [← hn]; exact Nat.pow_le_pow_right (n := 2) (by decide) hk
  have c4 : (bits .and .i64 (n : Int) ((n : Int) - 1) != 0) = false := by rw [← hn, Slot.and_of_pow k hk]; rfl
  have b0 : 0 ≤ Slot.slotv id (n : Int) := by rw [← hn]; exact (Slot.slotv_bounds k id).1
  have b1 : Slot.slotv id (n : Int) < (n : Int) := by rw [← hn]; exact (Slot.slotv_bounds k id).2
  have b2 : 0 ≤ Slot.slotv (wrap32 (id + 1)) (n : Int) := by rw [← hn]; exact (Slot.slotv_bounds k _).1
  have b3 : Slot.slotv (wrap32 (id + 1)) (n : Int) < (n : Int) := by rw [← hn]; exact (Slot.slotv_bounds k _).2
  have g0 : 0 ≤ bits .and .u32 2654435769 ((n : Int) - 1) := by rw [← hn]; exact (Slot.gold_bounds k hk).1
  have g1 : bits .and .u32 2654435769 ((n : Int) - 1) < (n : Int) := by rw [← hn]; exact (Slot.gold_bounds k hk).2
  have e1 : (Slot.slotv (wrap32 (id + 1)) (n : Int) == bits .and .i64 (Slot.slotv id (n : Int) + bits .and .u32 2654435769 ((n : Int) - 1)) ((n : Int) - 1)) = true := by
    rw [beq_iff_eq, ← hn]; exact Slot.step_bits k hk id
  have e2 : (Slot.slotv (wrap32 (id + (n : Int))) (n : Int) == Slot.slotv id (n : Int)) = true := by
    rw [beq_iff_eq, ← hn]; exact Slot.period k hk id
  have Hn : Hid (2 ^ k = n) := hn
  clear hn
  go_enter Try.func4, Try.ntmps4
  go_wp2_with fail
  refine (Slot.new11 n h2 _).mono ?_
  rintro e w1 ⟨rfl, hs, ⟨a, c, hc⟩, hg⟩
  go_wp2_with fail
  refine (Slot.slot12n _ _ _ a n k c hk Hn.out _ hc).mono ?_
  rintro e w2 ⟨rfl, rfl⟩
  go_wp2_with fail
  refine (Slot.slot12n _ _ _ a n k c hk Hn.out _ hc).mono ?_
  rintro e w2 ⟨rfl, rfl⟩
  go_wp2_with fail
  refine (Slot.slot12n _ _ _ a n k c hk Hn.out _ hc).mono ?_
  rintro e w2 ⟨rfl, rfl⟩
  go_wp2_with fail
  go_ret
  exact ⟨rfl, hg⟩

/-! ### STEP 1: THE WALK: the Go text returns true. 'Grown w w'': the world has at most new blocks (Derived/RowKit3.lean). Part the cases AHEAD of 'go_enter' where a test parts the walk; take each callee by a contract of your own. -/
theorem walk (a0 : Int) (a1 : Int) (w0 : (Lit.int .i64 a0).wf = true) (w1 : (Lit.int .i32 a1).wf = true) (w : World) :
    Calls Try.prog 4 #[.int .i64 a0, .int .i32 a1] w fun e w' => e = .returned (.bool true) ∧ Grown w w' := by
  have hw := w0
  simp only [Lit.wf, Bool.and_eq_true, decide_eq_true_eq] at hw
  by_cases c1 : a0 < 1
  · go_enter Try.func4, Try.ntmps4
    go_wp2
    go_ret
    exact ⟨rfl, Grown.refl _⟩
  by_cases c2 : 65536 < a0
  · go_enter Try.func4, Try.ntmps4
    go_wp2
    go_ret
    exact ⟨rfl, Grown.refl _⟩
  by_cases c3 : bits .and .i64 a0 (a0 - 1) = 0
  · obtain ⟨k, hk, rfl⟩ := Slot.pow_of_bits a0 (by omega) (by omega) c3
    exact at_pow (2 ^ k) k a1 hk rfl w
  · have c4 : (bits .and .i64 a0 (a0 - 1) != 0) = true := by rw [bne_iff_ne]; exact c3
    go_enter Try.func4, Try.ntmps4
    go_wp2
    go_ret
    exact ⟨rfl, Grown.refl _⟩

/-! ### THE ROW's STEP: WRITTEN OUT: LEAVE IT -/
set_option maxRecDepth 100000 in
theorem lifted (os : Os) (started : os.Started) (H : Type) (enc : TypeId × Value → H) :
    ReturnsInHanded {} Try.checked os 4 .any (Rows.fnSlotStepsByTheOddConstantAndRepeatsEveryTableLengthSpec.pre6 enc Try.prog Try.f4 Rows.fnSlotStepsByTheOddConstantAndRepeatsEveryTableLengthRow.domain false) (Rows.fnSlotStepsByTheOddConstantAndRepeatsEveryTableLengthSpec.post enc Try.prog Try.f4 false true false false) := by
  refine returnsInHanded_of_change (C := Try.checked) own started (by kernel_rfl) Try.func4
    (ChangeSpec.witness6 (enc := enc) (C := Try.checked) false ⟨#[], #[.int .i64 0, .int .i32 0], []⟩ 8 (by kernel_rfl) (by kernel_rfl) (by kernel_rfl) (by kernel_rfl)) ?_
  intro W base args ds gs before hval0 hW hcnd _
  have hval : ∀ (j : Nat) t v, Try.f4.params[j]? = some t → args[j]? = some v → Value.okWide Try.prog W .any base t v := hval0
  have hW' := hW
  obtain ⟨p, q, hA0, hV, rfl, hfz, hnd⟩ := hW
  have hA : DataW.TrodAll enc Try.prog W 0 (fun _ => true) true Try.f4.params.toList args.toList ds p := hA0
  rw [Try.params4] at hA hval
  obtain ⟨v0, vs0, d0, ds0, p0, q0, hargs, rfl, rfl, h0, r0⟩ := trodAll_cons hA
  obtain ⟨v1, vs1, d1, ds1, p1, q1, rfl, rfl, rfl, h1, r1⟩ := trodAll_cons r0
  obtain ⟨rfl, rfl, rfl⟩ := trodAll_nil r1
  obtain rfl : args = #[v0, v1] := by cases args; simp_all
  obtain ⟨rfl, rfl⟩ := trodVars_none hV
  obtain ⟨a0, rfl, rfl, rfl, w0⟩ := open_int Try.underlying3 (hval 0 3 v0 rfl rfl) h0
  obtain ⟨a1, rfl, rfl, rfl, w1⟩ := open_int Try.underlying21 (hval 1 21 v1 rfl rfl) h1
  clear hA0 hval0
  simp only [List.append_nil] at hW'
  refine (walk a0 a1 w0 w1 W).mono fun e W' ⟨he, hg⟩ => ?_
  subst he
  exact ⟨_, rfl, post_of_same (pa := []) (pv := []) hW' (fun _ _ _ => (trodAll_cons_mk (shut_bool Try.underlying4 _) trodAll_mk0)) (fun sp _ => (trodAll_cons_mk (shut_int Try.underlying3 w0) (trodAll_cons_mk (shut_int Try.underlying21 w1) trodAll_mk0))) (fun _ _ => rfl) rfl
    (hg.frame _) hg.2.1 (ok_one (by kernel_rfl) rfl (okWide_bool_mk Try.underlying4 _))⟩

theorem over : Rows.fnSlotStepsByTheOddConstantAndRepeatsEveryTableLengthRow.holds Try.pinned (OpenSpec.ofChange Rows.fnSlotStepsByTheOddConstantAndRepeatsEveryTableLengthSpec) :=
  OpenClaim.holds_of_wide 4 Try.f4 rfl rfl rfl rfl rfl rfl rfl ⟨rfl, rfl, rfl, rfl, rfl⟩ rfl rfl rfl rfl rfl (by kernel_rfl) Try.func4 (by kernel_rfl)
    (of_decide_eq_true (by kernel_rfl)) (by unfold Func.isWrapper; first | (rw [if_pos (by decide +kernel)]; kernel_rfl) | (rw [if_neg (by decide +kernel)]; exact ⟨rfl, rfl⟩))
    (fun os started H enc _ => lifted os started H enc)

/-- ████ THE STATEMENT ████ -/
theorem proved : Rows.FnSlotStepsByTheOddConstantAndRepeatsEveryTableLengthSaid :=
  over
#print axioms proved
end Go.Proofs.Qxb6618527a.fnSlotStepsByTheOddConstantAndRepeatsEveryTableLength

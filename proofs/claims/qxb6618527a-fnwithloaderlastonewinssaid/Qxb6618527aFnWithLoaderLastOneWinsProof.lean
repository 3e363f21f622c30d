/-
  THE SHELL OF A PROOF OF 'Rows.FnWithLoaderLastOneWinsSaid' ('example.com/assay/assay/zzlaws_root_b1.FnWithLoaderLastOneWins'), WRITTEN BY PROGRAM (proof-skeleton.mjs, third state) off the guide's own print for that function.
  (The tool does not serve a slice of slices: it was fed the print with a slice of bytes in its place; the opening of that one argument is typed by hand. The walk is Qxb6618527aLoadLaw's.)
-/
import Derived.Test.Qxb6618527aRows
import Derived.WalkKit
import Derived.ProofKit
import Derived.OpenShut
import Derived.ShutString
import Derived.ChangeOld
import Derived.Below
import Derived.Deep.Slices
import Derived.Test.Qxb6618527aLoadLaw
namespace Go.Proofs.Qxb6618527a.fnWithLoaderLastOneWins
open Go.ChangeShapes Go.WideShapes Go.ChangeAt Go.RowKit
open Go.ChangeMaps (open_string shut_string)
set_option linter.unusedVariables false

theorem own : ownKnob Try.prog.godebug = none := by kernel_rfl
theorem laidOut : laidOutB Try.prog = true := by kernel_rfl

theorem cells24 : Try.prog.cellsOf 24 = 1 := by kernel_rfl
theorem cells5 : Try.prog.cellsOf 5 = 1 := by kernel_rfl

/-! ### The argument 'docs', opened -/
theorem plain_of_cell {w : World} {x : Addr} {v : Value} (h : w.cell? (x.add 0) = some v) : ∃ b off, x = ⟨b, off, none⟩ := by
  obtain ⟨b, off, spot⟩ := x
  have hspot : spot = none := by simpa [Addr.add] using World.cell?_spot h
  exact ⟨b, off, by rw [hspot]⟩

/-- One doc: whatever reads as a slice of bytes. -/
theorem bytes_of {H : Type} {enc : TypeId × Value → H} {w : World} {base fuel : Nat} {spare : Nat → Bool} {held : Bool} {v : Value} {x : DataW H × List MemPlace}
    (h : DataW.trod enc Try.prog w base spare held fuel 24 [v] = some x) (hsp : ∀ b, spare b = true) : ∃ q : Option Addr × Nat × Nat × (Nat → Int), v = .slice q.1 q.2.1 q.2.2.1 ∧ Load.Bytes w q.1 q.2.1 q.2.2.2 := by
  rcases open_ints Try.underlying24 Try.underlying5 cells5 h with ⟨hcs, _⟩ | ⟨y, l, c, zs, hcs, _, hl, hm, hz, _, hcell, hwz⟩
  · simp at hcs
    exact ⟨(none, 0, 0, fun _ => 0), hcs, fun hl => absurd hl (by simp)⟩
  · simp at hcs
    refine ⟨(some y, l, c, fun t => zs.getD t 0), hcs, fun hl0 => ?_⟩
    have hz' : zs.length = c := by simpa [hsp] using hz
    obtain ⟨b, off, rfl⟩ := plain_of_cell (hcell 0 (by simp at hl0; omega))
    exact ⟨b, off, rfl, fun t ht => by rw [← Go.WideShapes.add_plain]; exact hcell t (by simp at ht; omega)⟩

theorem docs_of {H : Type} {enc : TypeId × Value → H} {w : World} {base : Nat} {spare : Nat → Bool} {held : Bool} {a : Option Addr} {len cap : Nat} {d : DataW H} {ps : List MemPlace} (hsp : ∀ b, spare b = true)
    (h : DataW.Trod enc Try.prog w base spare held 22 (.slice a len cap) d ps) : ∃ A L C B, Load.Docs w a len A L C B := by
  obtain ⟨fuel, hf⟩ := h
  rcases Go.Deep.open_slice1 Try.underlying22 cells24 hf with ⟨hcs, _⟩ | ⟨y, l, c, m, n, V, D, Pl, hcs, _, hl, hm, hmm, _, hx⟩
  · simp [Value.cells] at hcs
    obtain ⟨rfl, rfl, rfl⟩ := hcs
    exact ⟨fun _ => none, fun _ => 0, fun _ => 0, fun _ _ => 0, fun h => absurd h (by omega)⟩
  · simp [Value.cells] at hcs
    obtain ⟨rfl, rfl, rfl⟩ := hcs
    have hm' : m = cap := by simpa [hsp] using hmm
    have one : ∀ i, ∃ q : Option Addr × Nat × Nat × (Nat → Int), i < len → V i = .slice q.1 q.2.1 q.2.2.1 ∧ Load.Bytes w q.1 q.2.1 q.2.2.2 := fun i => by
      by_cases hi : i < len
      · obtain ⟨q, hq⟩ := bytes_of (hx i (by omega)).2 hsp
        exact ⟨q, fun _ => hq⟩
      · exact ⟨(none, 0, 0, fun _ => 0), fun h => absurd h hi⟩
    refine ⟨fun i => (Classical.choose (one i)).1, fun i => (Classical.choose (one i)).2.1, fun i => (Classical.choose (one i)).2.2.1, fun i => (Classical.choose (one i)).2.2.2, fun h0 => ?_⟩
    obtain ⟨b, off, rfl⟩ := plain_of_cell (hx 0 (by omega)).1
    refine ⟨b, off, rfl, fun i hi => ?_⟩
    obtain ⟨e1, e2⟩ := Classical.choose_spec (one i) hi
    refine ⟨?_, e2⟩
    rw [← e1, ← Go.WideShapes.add_plain]
    exact (hx i (by omega)).1

/-! ### THE ROW's STEP: WRITTEN OUT: LEAVE IT -/
set_option maxRecDepth 100000 in
theorem lifted (os : Os) (started : os.Started) (H : Type) (enc : TypeId × Value → H) :
    ReturnsInHanded {} Try.checked os 3 .any (Rows.fnWithLoaderLastOneWinsSpec.pre6 enc Try.prog Try.f3 Rows.fnWithLoaderLastOneWinsRow.domain false) (Rows.fnWithLoaderLastOneWinsSpec.post enc Try.prog Try.f3 false true false false) := by
  refine returnsInHanded_of_change (C := Try.checked) own started (by kernel_rfl) Try.func3
    (ChangeSpec.witness6 (enc := enc) (C := Try.checked) false ⟨#[], #[.bool false, .int .i64 0, .slice none 0 0, .string ByteArray.empty], []⟩ 8 (by kernel_rfl) (by kernel_rfl) (by kernel_rfl) (by kernel_rfl)) ?_
  intro W base args ds gs before hval0 hW hcnd _
  have hval : ∀ (j : Nat) t v, Try.f3.params[j]? = some t → args[j]? = some v → Value.okWide Try.prog W .any base t v := hval0
  have hW' := hW
  obtain ⟨p, q, hA0, hV, rfl, hfz, hnd⟩ := hW
  have hA : DataW.TrodAll enc Try.prog W 0 (fun _ => true) true Try.f3.params.toList args.toList ds p := hA0
  rw [Try.params3] at hA hval
  obtain ⟨v0, vs0, d0, ds0, p0, q0, hargs, rfl, rfl, h0, r0⟩ := trodAll_cons hA
  obtain ⟨v1, vs1, d1, ds1, p1, q1, rfl, rfl, rfl, h1, r1⟩ := trodAll_cons r0
  obtain ⟨v2, vs2, d2, ds2, p2, q2, rfl, rfl, rfl, h2, r2⟩ := trodAll_cons r1
  obtain ⟨v3, vs3, d3, ds3, p3, q3, rfl, rfl, rfl, h3, r3⟩ := trodAll_cons r2
  obtain ⟨rfl, rfl, rfl⟩ := trodAll_nil r3
  obtain rfl : args = #[v0, v1, v2, v3] := by cases args; simp_all
  obtain ⟨rfl, rfl⟩ := trodVars_none hV
  obtain ⟨a0, rfl, rfl, rfl⟩ := open_bool Try.underlying4 (hval 0 4 v0 rfl rfl) h0
  obtain ⟨a1, rfl, rfl, rfl, w1⟩ := open_int Try.underlying2 (hval 1 2 v1 rfl rfl) h1
  obtain ⟨a2, len2, cap2, rfl⟩ := okWide_slice Try.underlying22 (hval 2 22 v2 rfl rfl)
  have k2 := h2
  have lt2 : ∀ x ∈ p2, x.block < W.heap.size := by obtain ⟨m, hm⟩ := k2; exact DataW.trod_lt m _ _ _ hm
  obtain ⟨A, L, C, B, w2⟩ := docs_of (fun _ => rfl) h2
  obtain ⟨a3, rfl, rfl, rfl, w3⟩ := open_string Try.underlying9 (hval 3 9 v3 rfl rfl) h3
  clear hA0 hval0
  refine (Load.law3 a0 a1 a2 len2 cap2 a3 A L C B W w2).mono fun e W' ⟨he, bel⟩ => ?_
  subst he
  exact ⟨_, rfl, _, _, _, [], _, [], hW', trodAll_mk1 (shut_bool Try.underlying4 _), (trodAll_cons_mk (shut_bool Try.underlying4 _) (trodAll_cons_mk (shut_int Try.underlying2 w1) (trodAll_cons_mk (Below.trod laidOut (by kernel_rfl) (of_decide_eq_true (by kernel_rfl)) k2 bel lt2) (trodAll_cons_mk (shut_string Try.underlying9 w3) trodAll_mk0)))), rfl, bel.frame _, fun h => by cases h⟩

theorem over : Rows.fnWithLoaderLastOneWinsRow.holds Try.pinned (OpenSpec.ofChange Rows.fnWithLoaderLastOneWinsSpec) :=
  OpenClaim.holds_of_wide 3 Try.f3 rfl rfl rfl rfl rfl rfl rfl ⟨rfl, rfl, rfl, rfl, rfl⟩ rfl rfl rfl rfl rfl (by kernel_rfl) Try.func3 (by kernel_rfl)
    (of_decide_eq_true (by kernel_rfl)) (by unfold Func.isWrapper; first | (rw [if_pos (by decide +kernel)]; kernel_rfl) | (rw [if_neg (by decide +kernel)]; exact ⟨rfl, rfl⟩))
    (fun os started H enc _ => lifted os started H enc)

/-- ████ THE STATEMENT ████ -/
theorem proved : Rows.FnWithLoaderLastOneWinsSaid := over
#print axioms proved
end Go.Proofs.Qxb6618527a.fnWithLoaderLastOneWins

/-
  THE WALKS of 'zzCloneBytes' (7), 'zzBytesEqual' (10), 'zzBytes_FnWithLoaderLastOneWins' (6).
-/
import Derived.Test.Qxb6618527aRows
import Derived.Test.Qxb6618527aLoadParts
import Derived.WalkKit
import Derived.WalkSpells
import Derived.Lib.SliceRun
import Derived.BigQuiet
import Derived.WalkSmall
namespace Go.Proofs.Qxb6618527a.Load
open Go.RowKit

theorem info5 : (Try.prog.info? 5).map (fun i => (i.zero, i.size, i.bytes)) = some (some (.int .u8 0), 1, 1) := by kernel_rfl
theorem info24 : (Try.prog.info? 24).map (fun i => (i.zero, i.size, i.bytes)) = some (some (.slice none 0 0), 1, 24) := by kernel_rfl

theorem nil24 (w : World) (a : Option Addr) (n c n' c' : Nat) : (binOp .eql 24 (.slice a n c) (.slice none n' c')).run Try.prog w = .ok (.bool a.isNone) w :=
  Lib.run_eql_slice_nil w _ _ a n c n' c' Try.underlying24
theorem nil22 (w : World) (a : Option Addr) (n c n' c' : Nat) : (binOp .eql 22 (.slice a n c) (.slice none n' c')).run Try.prog w = .ok (.bool a.isNone) w :=
  Lib.run_eql_slice_nil w _ _ a n c n' c' Try.underlying22

theorem hide {p : Prop} (h : p) : Hid p := h

/-- Behind 'out[k] = s[k]' the row holds k + 1 bytes of s. -/
theorem row_next (wr : World) (H l k : Nat) (B f : Nat → Int) (hk : k < l) (hcl : ∀ t, t < l → wr.cell? ⟨H, t, none⟩ = some (.int .u8 (f t))) (hf : ∀ t, t < k → f t = B t) :
    ∃ f' : Nat → Int, (∀ t, t < l → (wr.setCell ⟨H, k, none⟩ (.int .u8 (B k))).cell? ⟨H, t, none⟩ = some (.int .u8 (f' t))) ∧ ∀ t, t < k + 1 → f' t = B t := by
  refine ⟨fun t => if t = k then B k else f t, fun t ht => ?_, fun t ht => ?_⟩
  · by_cases h : t = k
    · subst h
      simp only [if_true]
      exact World.cell?_setCell_same _ _ _ (hcl t ht)
    · rw [World.cell?_setCell_other _ _ _ _ (by intro e; cases e; exact h rfl)]
      simp only [if_neg h]
      exact hcl t ht
  · by_cases h : t = k
    · subst h; simp
    · simp only [if_neg h]; exact hf t (by omega)

theorem clone7 (a : Option Addr) (l c : Nat) (B : Nat → Int) (w : World) (hl : l ≤ 1048576) (hB : Bytes w a l B) :
    Calls Try.prog 7 #[.slice a l c] w fun e w' => ∃ a' c', e = .returned (.slice a' l c') ∧ Bytes w' a' l B ∧ Below w.heap.size w w' := by
  have q := nil24
  cases a with
  | none =>
    have h0 : l = 0 := by
      by_cases h : 0 < l
      · obtain ⟨_, _, e, _⟩ := hB h
        cases e
      · omega
    subst h0
    go_enter Try.func7, Try.ntmps7
    go_wp2
    go_ret
    exact ⟨none, 0, rfl, fun h => absurd h (by omega), Below.refl _ _⟩
  | some x =>
    have HB : Hid (Bytes w (some x) l B) := hB
    clear hB
    obtain ⟨i0, hi, hz0, hz1, hz2⟩ := info_parts info5
    have hmk := fun (w : World) => run_make (P := Try.prog) w 24 5 i0 _ Try.underlying24 hi hz0 .i64 .i64 (l : Int) (l : Int) (by omega) (by omega) (by rw [hz2]; omega) (by omega)
    go_enter Try.func7, Try.ntmps7
    go_wp2_with fail
    go_loopw [4] (fun i wr => ∃ (k : Nat) (f : Nat → Int), k ≤ l ∧ i = .int .i64 k ∧ Hid (∀ t, t < l → wr.cell? ⟨w.heap.size, t, none⟩ = some (.int .u8 (f t))) ∧
        Hid (∀ t, wr.frozen? ⟨w.heap.size, t, none⟩ = false) ∧ Hid (∀ t, t < k → f t = B t) ∧ Below w.heap.size w wr)
      (fun i _ => l - (intOf i).toNat)
    case atStart =>
      exact ⟨0, fun _ => 0, Nat.zero_le _, rfl, fun t ht => madeByte_at w l _ t _ 5 rfl ht, fun t => made_free w l _ t _ 5 rfl, fun t ht => absurd ht (by omega), (Below.refl _ _).alloc (Nat.le_refl _) _⟩
    case round =>
      obtain ⟨k, f, hk, rfl, hcl, hfr, hf, hbel⟩ := hrel
      by_cases hlt : k < l
      · obtain ⟨b, off, hx, hc⟩ := HB.out (by omega)
        cases hx
        have hck : wr.cell? ⟨b, off + k, none⟩ = some (.int .u8 (B k)) := cell_kept hbel (hc k hlt)
        have hco : wr.cell? ⟨w.heap.size, k, none⟩ = some (.int .u8 (f k)) := hcl.out k hlt
        have hfo : wr.frozen? ⟨w.heap.size, k, none⟩ = false := hfr.out k
        have R := row_next wr w.heap.size l k B f hlt hcl.out hf.out
        have HR := hide R
        clear R hc hmk q
        go_wp2
        go_roundw
        case rel =>
          obtain ⟨f', h1, h2⟩ := HR.out
          exact ⟨k + 1, f', by omega, by go_num, h1, fun t => (World.frozen?_setCell _ _ _ _).trans (hfr.out t), h2, hbel.setCell (Nat.le_refl _) _⟩
        case measure => simp [intOf]; omega
      · have : k = l := by omega
        subst this
        go_wp2
        go_ret
        exact ⟨_, _, rfl, fun _ => ⟨w.heap.size, 0, rfl, fun t ht => by rw [Nat.zero_add, ← hf.out t ht]; exact hcl.out t ht⟩, hbel⟩
theorem equal10 (a a' : Option Addr) (l c c' : Nat) (B : Nat → Int) (w : World) (hl : l ≤ 1048576) (h1 : Bytes w a l B) (h2 : Bytes w a' l B) :
    Calls Try.prog 10 #[.slice a l c, .slice a' l c'] w fun e w' => e = .returned (.bool true) ∧ Below w.heap.size w w' := by
  have H1 := hide h1
  have H2 := hide h2
  clear h1 h2
  have hne : ((l : Int) != (l : Int)) = false := by simp
  go_enter Try.func10, Try.ntmps10
  go_wp2_with fail
  go_loopw [5] (fun i wr => ∃ (k : Nat), k ≤ l ∧ i = .int .i64 k ∧ Below w.heap.size w wr) (fun i _ => l - (intOf i).toNat)
  case atStart => exact ⟨0, Nat.zero_le _, rfl, Below.refl _ _⟩
  case round =>
    obtain ⟨k, hk, rfl, hbel⟩ := hrel
    by_cases hlt : k < l
    · obtain ⟨b, off, hx, hc⟩ := H1.out (by omega)
      cases hx
      obtain ⟨b', off', hx', hc'⟩ := H2.out (by omega)
      cases hx'
      have hck : wr.cell? ⟨b, off + k, none⟩ = some (.int .u8 (B k)) := cell_kept hbel (hc k hlt)
      have hck' : wr.cell? ⟨b', off' + k, none⟩ = some (.int .u8 (B k)) := cell_kept hbel (hc' k hlt)
      have hlt2 : (k : Int) < (l : Int) := by omega
      clear hc hc'
      have hbb : (B k != B k) = false := by simp
      go_wp2
      go_quiet (fail)
      go_wp2
      go_roundw
      case rel => exact ⟨k + 1, by omega, by go_num, below_drewN hbel _⟩
      case measure => simp [intOf]; omega
    · have : k = l := by omega
      subst this
      go_wp2
      go_ret
      exact ⟨rfl, hbel⟩

end Go.Proofs.Qxb6618527a.Load

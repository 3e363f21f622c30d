/-
  THE WALK of 'zzCloneAll' (8).
-/
import Derived.Test.Qxb6618527aLoadSize
namespace Go.Proofs.Qxb6618527a.Load
open Go.RowKit

/-- What stands in the new row of slices at the head of round k. -/
def Half (w : World) (H n k : Nat) (A : Nat → Option Addr) (L C : Nat → Nat) (B : Nat → Nat → Int) : Prop :=
  (∀ i, i < n → ∃ v, w.cell? ⟨H, i, none⟩ = some v ∧ (∀ q, v ≠ .int .u8 q) ∧ w.frozen? ⟨H, i, none⟩ = false) ∧
  (∀ i, i < k → w.cell? ⟨H, i, none⟩ = some (.slice (A i) (L i) (C i)) ∧ Bytes w (A i) (L i) (B i))

theorem half_start (w : World) (n : Nat) (A : Nat → Option Addr) (L C : Nat → Nat) (B : Nat → Nat → Int) :
    Half (w.alloc (.cells (madeCells #[.slice none 0 0] n) 24)) w.heap.size n 0 A L C B :=
  ⟨fun i hi => ⟨_, madeByte_at w n _ i _ 24 rfl hi, fun q h => (by cases h), made_free w n _ i _ 24 rfl⟩, fun i hi => absurd hi (by omega)⟩

theorem half_kept {w w' : World} {H n k : Nat} {A : Nat → Option Addr} {L C : Nat → Nat} {B : Nat → Nat → Int} (h : Half w H n k A L C B) (hb : Below w.heap.size w w') : Half w' H n k A L C B := by
  refine ⟨fun i hi => ?_, fun i hi => ?_⟩
  · obtain ⟨v, h1, h2, h3⟩ := h.1 i hi
    exact ⟨v, cell_kept hb h1, h2, (frozen_kept hb h1).trans h3⟩
  · exact ⟨cell_kept hb (h.2 i hi).1, (h.2 i hi).2.kept hb⟩

/-- Behind 'out[k] = zzCloneBytes(docs[k])'. -/
theorem half_next {w : World} {H n k : Nat} {A : Nat → Option Addr} {L C : Nat → Nat} {B : Nat → Nat → Int} (hk : k < n) (h : Half w H n k A L C B) (a' : Option Addr) (c' : Nat) (hB : Bytes w a' (L k) (B k)) :
    ∃ A' C', Half (w.setCell ⟨H, k, none⟩ (.slice a' (L k) c')) H n (k + 1) A' L C' B := by
  obtain ⟨v, hv, hv8, hvf⟩ := h.1 k hk
  refine ⟨fun i => if i = k then a' else A i, fun i => if i = k then c' else C i, fun i hi => ?_, fun i hi => ?_⟩
  · by_cases e : i = k
    · subst e
      exact ⟨_, World.cell?_setCell_same _ _ _ hv, fun q h => (by cases h), (World.frozen?_setCell _ _ _ _).trans hvf⟩
    · obtain ⟨u, h1, h2, h3⟩ := h.1 i hi
      exact ⟨u, (World.cell?_setCell_other _ _ _ _ (by intro q; cases q; exact e rfl)).trans h1, h2, (World.frozen?_setCell _ _ _ _).trans h3⟩
  · by_cases e : i = k
    · subst e
      simp only [if_true]
      exact ⟨World.cell?_setCell_same _ _ _ hv, hB.set hv hv8 _⟩
    · simp only [if_neg e]
      obtain ⟨h1, h2⟩ := h.2 i (by omega)
      exact ⟨(World.cell?_setCell_other _ _ _ _ (by intro q; cases q; exact e rfl)).trans h1, h2.set hv hv8 _⟩

theorem clone8 (a : Option Addr) (n c : Nat) (A : Nat → Option Addr) (L C : Nat → Nat) (B : Nat → Nat → Int) (w : World) (hn : n ≤ 4096) (hL : ∀ i, i < n → L i ≤ 1048576) (hD : Docs w a n A L C B) :
    Calls Try.prog 8 #[.slice a n c] w fun e w' => ∃ a' c' A' C', e = .returned (.slice a' n c') ∧ Docs w' a' n A' L C' B ∧ Below w.heap.size w w' := by
  have q := nil22
  cases a with
  | none =>
    have h0 : n = 0 := by
      by_cases h : 0 < n
      · obtain ⟨_, _, e, _⟩ := hD h
        cases e
      · omega
    subst h0
    clear hD hL
    go_enter Try.func8, Try.ntmps8
    go_wp2
    go_ret
    exact ⟨none, 0, fun _ => none, fun _ => 0, rfl, fun h => absurd h (by omega), Below.refl _ _⟩
  | some x =>
    have HD := hide hD
    have HL := hide hL
    clear hD hL
    obtain ⟨i0, hi, hz0, hz1, hz2⟩ := info_parts info24
    have hmk := fun (w : World) => run_make (P := Try.prog) w 22 24 i0 _ Try.underlying22 hi hz0 .i64 .i64 (n : Int) (n : Int) (by omega) (by omega) (by rw [hz2]; omega) (by omega)
    go_enter Try.func8, Try.ntmps8
    go_wp2_with fail
    go_loopw [4] (fun i wr => ∃ (k : Nat) (A' : Nat → Option Addr) (C' : Nat → Nat), k ≤ n ∧ i = .int .i64 k ∧ Half wr w.heap.size n k A' L C' B ∧ Below w.heap.size w wr)
      (fun i _ => n - (intOf i).toNat)
    case atStart =>
      exact ⟨0, fun _ => none, fun _ => 0, Nat.zero_le _, rfl, half_start w n _ L _ B, (Below.refl _ _).alloc (Nat.le_refl _) _⟩
    case round =>
      obtain ⟨k, A', C', hk, rfl, hH, hbel⟩ := hrel
      by_cases hlt : k < n
      · obtain ⟨b, off, hx, hc⟩ := HD.out (by omega)
        cases hx
        have hck : wr.cell? ⟨b, off + k, none⟩ = some (.slice (A k) (L k) (C k)) := cell_kept hbel (hc k hlt).1
        have hBk := hide ((hc k hlt).2.kept hbel)
        clear hc hmk q
        go_wp2_with fail
        refine (clone7 (A k) (L k) (C k) (B k) _ (HL.out k hlt) hBk.out).mono ?_
        rintro e w2 ⟨a2, c2, rfl, hB2, hbel2⟩
        have hH2 := half_kept hH hbel2
        obtain ⟨v, hv, hv8, hvf⟩ := hH2.1 k hlt
        have R := hide (half_next hlt hH2 a2 c2 hB2)
        have hbel3 : Below w.heap.size w w2 := hbel.trans (hbel2.mono hbel.size)
        clear hv8 hB2 hbel2 hH hH2 hbel
        go_wp2
        go_roundw
        case rel =>
          obtain ⟨A2, C2, hH3⟩ := R.out
          exact ⟨k + 1, A2, C2, by omega, by go_num, hH3, hbel3.setCell (Nat.le_refl _) _⟩
        case measure => simp [intOf]; omega
      · have : k = n := by omega
        subst this
        go_wp2
        go_ret
        exact ⟨_, _, A', C', rfl, fun _ => ⟨w.heap.size, 0, rfl, fun i hi => by rw [Nat.zero_add]; exact hH.2 i hi⟩, hbel⟩

end Go.Proofs.Qxb6618527a.Load

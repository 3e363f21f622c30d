/-
  WHAT THE WALKS OF 'FnWithLoaderLastOneWins' SAY OF A SLICE OF BYTES AND OF A SLICE OF SUCH SLICES; how that is carried from world to world. No program in sight.
-/
import Derived.WalkKit
namespace Go.Proofs.Qxb6618527a.Load
open Go.RowKit

/-- A slice of l bytes: where there is a byte, the address is plain and cell t holds B t. -/
def Bytes (w : World) (a : Option Addr) (l : Nat) (B : Nat → Int) : Prop :=
  0 < l → ∃ b off, a = some ⟨b, off, none⟩ ∧ ∀ t, t < l → w.cell? ⟨b, off + t, none⟩ = some (.int .u8 (B t))

/-- A slice of n slices of bytes. -/
def Docs (w : World) (a : Option Addr) (n : Nat) (A : Nat → Option Addr) (L C : Nat → Nat) (B : Nat → Nat → Int) : Prop :=
  0 < n → ∃ b off, a = some ⟨b, off, none⟩ ∧ ∀ i, i < n → w.cell? ⟨b, off + i, none⟩ = some (.slice (A i) (L i) (C i)) ∧ Bytes w (A i) (L i) (B i)

theorem lt_of_cell {w : World} {b off : Nat} {v : Value} (h : w.cell? ⟨b, off, none⟩ = some v) : b < w.heap.size := by
  by_cases hb : b < w.heap.size
  · exact hb
  · have e : w.heap[b]? = none := by simp; omega
    simp [World.cell?, e] at h

/-- A cell that is there stays, where below the heap's size nothing has turned. -/
theorem cell_kept {w w' : World} {b off : Nat} {v : Value} (hb : Below w.heap.size w w') (h : w.cell? ⟨b, off, none⟩ = some v) : w'.cell? ⟨b, off, none⟩ = some v :=
  (hb.cell (p := ⟨b, off, none⟩) (lt_of_cell h)).trans h

theorem frozen_kept {w w' : World} {b off : Nat} {v : Value} (hb : Below w.heap.size w w') (h : w.cell? ⟨b, off, none⟩ = some v) : w'.frozen? ⟨b, off, none⟩ = w.frozen? ⟨b, off, none⟩ :=
  hb.frozen (p := ⟨b, off, none⟩) (lt_of_cell h)

theorem Bytes.kept {w w' : World} {a : Option Addr} {l : Nat} {B : Nat → Int} (h : Bytes w a l B) (hb : Below w.heap.size w w') : Bytes w' a l B := by
  intro hl
  obtain ⟨b, off, e, hc⟩ := h hl
  exact ⟨b, off, e, fun t ht => cell_kept hb (hc t ht)⟩

theorem Docs.kept {w w' : World} {a : Option Addr} {n : Nat} {A : Nat → Option Addr} {L C : Nat → Nat} {B : Nat → Nat → Int} (h : Docs w a n A L C B) (hb : Below w.heap.size w w') : Docs w' a n A L C B := by
  intro hn
  obtain ⟨b, off, e, hc⟩ := h hn
  exact ⟨b, off, e, fun i hi => ⟨cell_kept hb (hc i hi).1, (hc i hi).2.kept hb⟩⟩

/-- A store into a cell that holds no byte leaves a slice of bytes as it is. -/
theorem Bytes.set {w : World} {a : Option Addr} {l : Nat} {B : Nat → Int} (h : Bytes w a l B) {p : Addr} {v : Value} (hp : w.cell? p = some v) (hv : ∀ n, v ≠ .int .u8 n) (u : Value) : Bytes (w.setCell p u) a l B := by
  intro hl
  obtain ⟨b, off, e, hc⟩ := h hl
  refine ⟨b, off, e, fun t ht => ?_⟩
  rw [World.cell?_setCell_other _ _ _ _ (by
    intro e2
    have h2 := hc t ht
    rw [← e2, hp] at h2
    exact hv _ (Option.some.inj h2))]
  exact hc t ht

/-- Below the heap's old size a step that changes nothing there. -/
theorem below_trans {w w1 w2 : World} (h1 : Below w.heap.size w w1) (h2 : Below w1.heap.size w1 w2) : Below w.heap.size w w2 :=
  h1.trans (h2.mono h1.size)

theorem madeByte_at (w1 : World) (n H j : Nat) (z : Value) (ty : TypeId) (hs : w1.heap.size = H) (hj : j < n) :
    (w1.alloc (.cells (madeCells #[z] n) ty)).cell? ⟨H, j, none⟩ = some z := by
  have e : (w1.alloc (.cells (madeCells #[z] n) ty)).heap[H]? = some (.cells (madeCells #[z] n) ty) := by
    rw [← hs]; exact (MapKept.heap_alloc w1 _).1
  simp only [World.cell?, e]
  simp [madeCells, hj, Nat.mod_one]

theorem made_free (w1 : World) (n H j : Nat) (z : Value) (ty : TypeId) (hs : w1.heap.size = H) :
    (w1.alloc (.cells (madeCells #[z] n) ty)).frozen? ⟨H, j, none⟩ = false := by
  have e : (w1.alloc (.cells (madeCells #[z] n) ty)).heap[H]? = some (.cells (madeCells #[z] n) ty) := by
    rw [← hs]; exact (MapKept.heap_alloc w1 _).1
  simp [World.frozen?, e]

end Go.Proofs.Qxb6618527a.Load

/-
  THE WALKS of 'runtimePanic' (26) over each of the four functions that it is handed (27 to 30), and of its deferred closure (34).
-/
import Derived.Test.Qxb6618866aRows
import Derived.WalkKit
import Derived.Defers
import Derived.Recover
import Derived.Laws.Pointers
import Derived.WalkLawsBesides
namespace Go.Proofs.Qxb6618866a.Rec
open Go.RowKit

/-! ### The deferred closure 'func() { r = recover() }' (34): of a frame that panics; of a frame that returns -/
theorem catch_panicking (p : Addr) (x : Value) (u : TypeId) (pv : Value) (older : List PanicEntry) (w : World) (hc : w.cell? p = some x) (hz : w.frozen? p = false) :
    CallsD Try.prog 34 #[.pointer (some p)] (.panicking ({ v := .iface u pv, recovered := false } :: older)) w fun e u' w' =>
      e = .returned (.tuple #[]) ∧ u' = .panicking ({ v := .iface u pv, recovered := true } :: older) ∧ w' = w.setCell p (.iface u pv) := by
  refine callsD_of_wpS Try.func34 rfl fun c₀ cs hu => ?_
  apply wpS_region
  simp [wpOpsS, go_sem, recoverD, hu, Try.ntmps34, hc, hz, bodyPostS, results, Try.results34]

theorem catch_idle (p : Addr) (x : Value) (w : World) (hc : w.cell? p = some x) (hz : w.frozen? p = false) :
    CallsD Try.prog 34 #[.pointer (some p)] .returning w fun e u' w' => e = .returned (.tuple #[]) ∧ u' = .returning ∧ w' = w.setCell p .nilIface := by
  refine callsD_of_wpS Try.func34 rfl fun c₀ cs hu => ?_
  apply wpS_region
  simp [wpOpsS, go_sem, recoverD, hu, Try.ntmps34, hc, hz, bodyPostS, results, Try.results34]
  cases c₀
  simp_all

/-! ### The four functions -/
theorem c27 (b : Nat) (n : Int) (w : World) (hc : w.cell? ⟨b, 0, none⟩ = some (.int .i64 n)) :
    Calls Try.prog 27 #[.pointer (some ⟨b, 0, none⟩)] w fun e w' => e = .panicked [{ v := .iface 3 (.int .i64 n), recovered := false }] ∧ w = w' := by
  go_enter Try.func27, Try.ntmps27
  go_wp2
  exact ⟨rfl, rfl, rfl⟩

theorem c28 (b : Nat) (s : ByteArray) (w : World) (hc : w.cell? ⟨b, 0, none⟩ = some (.string s)) :
    Calls Try.prog 28 #[.pointer (some ⟨b, 0, none⟩)] w fun e w' => e = .panicked [{ v := .iface 9 (.string s), recovered := false }] ∧ w = w' := by
  go_enter Try.func28, Try.ntmps28
  go_wp2
  exact ⟨rfl, rfl, rfl⟩

theorem c29 (b : Nat) (w : World) (hc : w.cell? ⟨b, 0, none⟩ = some (.int .i64 0)) (hz : w.frozen? ⟨b, 0, none⟩ = false) :
    Calls Try.prog 29 #[.pointer (some ⟨b, 0, none⟩)] w fun e w' => e = .returned (.tuple #[]) ∧ w.setCell ⟨b, 0, none⟩ (.int .i64 1) = w' := by
  go_enter Try.func29, Try.ntmps29
  go_wp2
  go_end0
  exact ⟨rfl, rfl⟩

theorem c30 (b q : Nat) (n : Int) (w : World) (hne : b ≠ q) (hc : w.cell? ⟨b, 0, none⟩ = some (.int .i64 0)) (hz : w.frozen? ⟨b, 0, none⟩ = false) (hq : w.cell? ⟨q, 0, none⟩ = some (.int .i64 n)) :
    Calls Try.prog 30 #[.pointer (some ⟨b, 0, none⟩), .pointer (some ⟨q, 0, none⟩)] w fun e w' =>
      e = .panicked [{ v := .iface 3 (.int .i64 n), recovered := false }] ∧ w.setCell ⟨b, 0, none⟩ (.int .i64 1) = w' := by
  have hq1 : (w.setCell ⟨b, 0, none⟩ (.int .i64 1)).cell? ⟨q, 0, none⟩ = some (.int .i64 n) := by
    rw [World.cell?_setCell_other _ _ _ _ (by intro e; exact hne (congrArg Addr.block e))]; exact hq
  go_enter Try.func30, Try.ntmps30
  go_wp2
  exact ⟨rfl, rfl, rfl⟩

/-! ### runtimePanic over each -/
theorem mk (fn : Fn) (first cap : Array Value) (w : World) : (Instr.makeFunc fn first cap).run Try.prog w = .ok (.func fn first cap) w := rfl

theorem rp27 (b : Nat) (n : Int) (w : World) (hc : w.cell? ⟨b, 0, none⟩ = some (.int .i64 n)) (hb : b < w.heap.size) :
    Calls Try.prog 26 #[.func (.func 27) #[] #[.pointer (some ⟨b, 0, none⟩)]] w fun e w' => e = .returned (.iface 3 (.int .i64 n)) ∧ Grown w w' := by
  have hmf := mk
  have hc1 : (w.alloc (.cells #[.nilIface] 20)).cell? ⟨b, 0, none⟩ = some (.int .i64 n) := by rw [World.cell?_alloc_past _ _ _ hb]; exact hc
  have hg : Grown w ((w.alloc (.cells #[.nilIface] 20)).setCell ⟨w.heap.size, 0, none⟩ (.iface 3 (.int .i64 n))) := ((Grown.refl _).alloc _ _).setCell (Nat.le_refl _) _
  go_enter_defers Try.func26, Try.ntmps26
  go_wp2_with fail
  refine (c27 b n _ hc1).mono ?_
  rintro e w1 ⟨rfl, rfl⟩
  refine leaves_cons (f := 34) (args := #[.pointer (some ⟨w.heap.size, 0, none⟩)]) (by simp) (by simp [go_sem]) ?_
  refine (catch_panicking ⟨w.heap.size, 0, none⟩ .nilIface 3 _ [] _ ?_ ?_).mono ?_
  · simp [go_sem]
  · simp [go_sem]
  rintro e u' w'' ⟨rfl, rfl, rfl⟩
  simp [Leaves, settle, results, Try.results26, go_sem]
  simpa [go_sem] using hg

theorem rp28 (b : Nat) (s : ByteArray) (w : World) (hc : w.cell? ⟨b, 0, none⟩ = some (.string s)) (hb : b < w.heap.size) :
    Calls Try.prog 26 #[.func (.func 28) #[] #[.pointer (some ⟨b, 0, none⟩)]] w fun e w' => e = .returned (.iface 9 (.string s)) ∧ Grown w w' := by
  have hmf := mk
  have hc1 : (w.alloc (.cells #[.nilIface] 20)).cell? ⟨b, 0, none⟩ = some (.string s) := by rw [World.cell?_alloc_past _ _ _ hb]; exact hc
  have hg : Grown w ((w.alloc (.cells #[.nilIface] 20)).setCell ⟨w.heap.size, 0, none⟩ (.iface 9 (.string s))) := ((Grown.refl _).alloc _ _).setCell (Nat.le_refl _) _
  go_enter_defers Try.func26, Try.ntmps26
  go_wp2_with fail
  refine (c28 b s _ hc1).mono ?_
  rintro e w1 ⟨rfl, rfl⟩
  refine leaves_cons (f := 34) (args := #[.pointer (some ⟨w.heap.size, 0, none⟩)]) (by simp) (by simp [go_sem]) ?_
  refine (catch_panicking ⟨w.heap.size, 0, none⟩ .nilIface 9 _ [] _ ?_ ?_).mono ?_
  · simp [go_sem]
  · simp [go_sem]
  rintro e u' w'' ⟨rfl, rfl, rfl⟩
  simp [Leaves, settle, results, Try.results26, go_sem]
  simpa [go_sem] using hg

/-- What the caller keeps: its counter reads 1 and may be written; whatever world was only grown is only grown. -/
def Once (w : World) (b : Nat) (w' : World) : Prop :=
  w'.cell? ⟨b, 0, none⟩ = some (.int .i64 1) ∧ w'.frozen? ⟨b, 0, none⟩ = false ∧ ∀ W, Grown W w → W.heap.size ≤ b → Grown W w'

theorem once_of (w : World) (b : Nat) (v : Value) (hc : w.cell? ⟨b, 0, none⟩ = some (.int .i64 0)) (hz : w.frozen? ⟨b, 0, none⟩ = false) (hb : b < w.heap.size) (w1 : World)
    (h1 : (w.alloc (.cells #[.nilIface] 20)).setCell ⟨b, 0, none⟩ (.int .i64 1) = w1) : Once w b (w1.setCell ⟨w.heap.size, 0, none⟩ v) := by
  have ho : (w.alloc (.cells #[.nilIface] 20)).cell? ⟨b, 0, none⟩ = some (.int .i64 0) := by rw [World.cell?_alloc_past _ _ _ hb]; exact hc
  subst h1
  refine ⟨?_, ?_, fun W hg hW => ?_⟩
  · rw [World.cell?_setCell_other _ _ _ _ (by intro e; have := congrArg Addr.block e; simp at this; omega)]
    exact World.cell?_setCell_same _ _ _ ho
  · rw [World.frozen?_setCell, World.frozen?_setCell, frozen?_alloc_cells]; exact hz
  · exact ((hg.alloc _ _).setCell hW _).setCell (by show W.heap.size ≤ w.heap.size; omega) _

theorem once_set {w w' : World} {b : Nat} (h : Once w b w') (hb : b < w.heap.size) (v : Value) : Once w b (w'.setCell ⟨w.heap.size, 0, none⟩ v) := by
  refine ⟨?_, ?_, fun W hg hW => (h.2.2 W hg hW).setCell (by show W.heap.size ≤ w.heap.size; omega) _⟩
  · rw [World.cell?_setCell_other _ _ _ _ (by intro e; have := congrArg Addr.block e; simp at this; omega)]
    exact h.1
  · rw [World.frozen?_setCell]; exact h.2.1

theorem slot_there (w : World) (b : Nat) (hb : b < w.heap.size) (w1 : World) (h1 : (w.alloc (.cells #[.nilIface] 20)).setCell ⟨b, 0, none⟩ (.int .i64 1) = w1) :
    w1.cell? ⟨w.heap.size, 0, none⟩ = some .nilIface ∧ w1.frozen? ⟨w.heap.size, 0, none⟩ = false := by
  subst h1
  constructor
  · rw [World.cell?_setCell_other _ _ _ _ (by intro e; have := congrArg Addr.block e; simp at this; omega)]
    simp [go_sem]
  · rw [World.frozen?_setCell]
    simp [go_sem]

theorem rp29 (b : Nat) (w : World) (hc : w.cell? ⟨b, 0, none⟩ = some (.int .i64 0)) (hz : w.frozen? ⟨b, 0, none⟩ = false) (hb : b < w.heap.size) :
    Calls Try.prog 26 #[.func (.func 29) #[] #[.pointer (some ⟨b, 0, none⟩)]] w fun e w' => e = .returned .nilIface ∧ Once w b w' := by
  have hmf := mk
  have hc1 : (w.alloc (.cells #[.nilIface] 20)).cell? ⟨b, 0, none⟩ = some (.int .i64 0) := by rw [World.cell?_alloc_past _ _ _ hb]; exact hc
  have hz1 : (w.alloc (.cells #[.nilIface] 20)).frozen? ⟨b, 0, none⟩ = false := by rw [frozen?_alloc_cells]; exact hz
  go_enter_defers Try.func26, Try.ntmps26
  go_wp2_with fail
  refine (c29 b _ hc1 hz1).mono ?_
  rintro e w1 ⟨rfl, h1⟩
  obtain ⟨k1, k2⟩ := slot_there w b hb w1 h1
  have R := once_of w b .nilIface hc hz hb w1 h1
  have HR : Hid (Once w b (w1.setCell ⟨w.heap.size, 0, none⟩ .nilIface)) := R
  clear h1 hc1 hz1 hc hz R
  go_wp2
  refine leaves_cons (f := 34) (args := #[.pointer (some ⟨w.heap.size, 0, none⟩)]) (by simp) (by simp [go_sem]) ?_
  have k3 : (w1.setCell ⟨w.heap.size, 0, none⟩ .nilIface).cell? ⟨w.heap.size, 0, none⟩ = some .nilIface := World.cell?_setCell_same _ _ _ k1
  have k4 : (w1.setCell ⟨w.heap.size, 0, none⟩ .nilIface).frozen? ⟨w.heap.size, 0, none⟩ = false := (World.frozen?_setCell _ _ _ _).trans k2
  refine (catch_idle ⟨w.heap.size, 0, none⟩ .nilIface _ k3 k4).mono ?_
  rintro e u' w'' ⟨rfl, rfl, rfl⟩
  have k5 : ((w1.setCell ⟨w.heap.size, 0, none⟩ .nilIface).setCell ⟨w.heap.size, 0, none⟩ .nilIface).cell? ⟨w.heap.size, 0, none⟩ = some .nilIface := World.cell?_setCell_same _ _ _ k3
  have R2 := once_set HR.out hb .nilIface
  generalize (w1.setCell ⟨w.heap.size, 0, none⟩ .nilIface).setCell ⟨w.heap.size, 0, none⟩ .nilIface = w3 at *
  simp [Leaves, settle, results, Try.results26, go_sem, k5, R2]

theorem rp30 (b q : Nat) (n : Int) (w : World) (hne : b ≠ q) (hc : w.cell? ⟨b, 0, none⟩ = some (.int .i64 0)) (hz : w.frozen? ⟨b, 0, none⟩ = false) (hb : b < w.heap.size) (hq : w.cell? ⟨q, 0, none⟩ = some (.int .i64 n)) (hqb : q < w.heap.size) :
    Calls Try.prog 26 #[.func (.func 30) #[] #[.pointer (some ⟨b, 0, none⟩), .pointer (some ⟨q, 0, none⟩)]] w fun e w' => e = .returned (.iface 3 (.int .i64 n)) ∧ Once w b w' := by
  have hmf := mk
  have hc1 : (w.alloc (.cells #[.nilIface] 20)).cell? ⟨b, 0, none⟩ = some (.int .i64 0) := by rw [World.cell?_alloc_past _ _ _ hb]; exact hc
  have hq1 : (w.alloc (.cells #[.nilIface] 20)).cell? ⟨q, 0, none⟩ = some (.int .i64 n) := by rw [World.cell?_alloc_past _ _ _ hqb]; exact hq
  have hz1 : (w.alloc (.cells #[.nilIface] 20)).frozen? ⟨b, 0, none⟩ = false := by rw [frozen?_alloc_cells]; exact hz
  go_enter_defers Try.func26, Try.ntmps26
  go_wp2_with fail
  refine (c30 b q n _ hne hc1 hz1 hq1).mono ?_
  rintro e w1 ⟨rfl, h1⟩
  obtain ⟨k1, k2⟩ := slot_there w b hb w1 h1
  have R := once_of w b (.iface 3 (.int .i64 n)) hc hz hb w1 h1
  clear h1 hc1 hz1 hq1
  refine leaves_cons (f := 34) (args := #[.pointer (some ⟨w.heap.size, 0, none⟩)]) (by simp) (by simp [go_sem]) ?_
  refine (catch_panicking ⟨w.heap.size, 0, none⟩ .nilIface 3 _ [] _ k1 k2).mono ?_
  rintro e u' w'' ⟨rfl, rfl, rfl⟩
  have k5 : (w1.setCell ⟨w.heap.size, 0, none⟩ (.iface 3 (.int .i64 n))).cell? ⟨w.heap.size, 0, none⟩ = some (.iface 3 (.int .i64 n)) := World.cell?_setCell_same _ _ _ k1
  generalize w1.setCell ⟨w.heap.size, 0, none⟩ (.iface 3 (.int .i64 n)) = w3 at *
  simp [Leaves, settle, results, Try.results26, go_sem, k5, R]

end Go.Proofs.Qxb6618866a.Rec

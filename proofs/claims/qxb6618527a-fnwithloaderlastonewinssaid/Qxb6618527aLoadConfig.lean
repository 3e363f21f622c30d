/-
  THE WALKS of 'WithLoader$1' (16), 'zzConstLoader$1' (17), 'ZZconfigAfterLoaders' (9); 'WithLoader' (13) and 'zzConstLoader' (14) are walked in place.
-/
import Derived.Test.Qxb6618527aLoadAll
import Derived.Laws.EntriesVeiled
namespace Go.Proofs.Qxb6618527a.Load
open Go.RowKit

theorem neq40 (f : Fn) (fs cs : Array Value) (w : World) : (binOp .neq 40 (.func f fs cs) .nilFunc).run Try.prog w = .ok (.bool true) w := by kernel_rfl
theorem eql36 (f : Fn) (fs cs : Array Value) (w : World) : (binOp .eql 36 (.func f fs cs) .nilFunc).run Try.prog w = .ok (.bool false) w := by kernel_rfl
theorem eql36n (w : World) : (binOp .eql 36 .nilFunc .nilFunc).run Try.prog w = .ok (.bool true) w := by kernel_rfl
theorem eql45n (w : World) : (binOp .eql 45 .nilIface .nilIface).run Try.prog w = .ok (.bool true) w := by kernel_rfl

/-- The loader's closure: it hands back the doc that it captured, and no error. -/
theorem const17 (u : ByteArray) (x off : Nat) (a : Option Addr) (l c : Nat) (w : World) (h : w.cell? ⟨x, off, none⟩ = some (.slice a l c)) :
    Calls Try.prog 17 #[.string u, .pointer (some ⟨x, off, none⟩)] w fun e w' => e = .returned (.tuple #[.slice a l c, .nilIface]) ∧ w = w' := by
  go_enter Try.func17, Try.ntmps17
  go_wp2
  go_ret2
  exact ⟨rfl, rfl⟩

/-- The option's closure: it lays the loader that it captured into the config's field. -/
theorem opt16 (cb x : Nat) (f : Fn) (fs cs : Array Value) (v : Value) (w : World) (hx : w.cell? ⟨x, 0, none⟩ = some (.func f fs cs)) (hc : w.cell? ⟨cb, 1, none⟩ = some v) (hz : w.frozen? ⟨cb, 1, none⟩ = false) :
    Calls Try.prog 16 #[.pointer (some ⟨cb, 0, none⟩), .pointer (some ⟨x, 0, none⟩)] w fun e w' => e = .returned (.tuple #[]) ∧ w.setCell ⟨cb, 1, none⟩ (.func f fs cs) = w' := by
  go_enter Try.func16, Try.ntmps16
  go_wp2
  go_end0
  exact ⟨rfl, rfl⟩

/-- The loader over a doc that lies in the box x. -/
def ldr (x : Nat) : Value := .func (.func 17) #[] #[.pointer (some ⟨x, 0, none⟩)]

/-- The config at block H behind k rounds: its plain fields; its loader: none, or the closure over the last doc. -/
def Cfg (w : World) (H k : Nat) (fa : Bool) (mb : Int) (A : Nat → Option Addr) (L C : Nat → Nat) : Prop :=
  w.cell? ⟨H, 0, none⟩ = some (.bool fa) ∧ w.cell? ⟨H, 2, none⟩ = some (.int .i64 mb) ∧ w.frozen? ⟨H, 1, none⟩ = false ∧
  ((k = 0 ∧ w.cell? ⟨H, 1, none⟩ = some .nilFunc) ∨
    (0 < k ∧ ∃ x, w.cell? ⟨H, 1, none⟩ = some (ldr x) ∧ w.cell? ⟨x, 0, none⟩ = some (.slice (A (k - 1)) (L (k - 1)) (C (k - 1)))))

theorem cfg_start (w : World) (fa : Bool) (mb : Int) (A : Nat → Option Addr) (L C : Nat → Nat) :
    Cfg (w.alloc (.cells #[.bool fa, .nilFunc, .int .i64 mb] 38)) w.heap.size 0 fa mb A L C := by
  refine ⟨?_, ?_, ?_, .inl ⟨rfl, ?_⟩⟩
  · simp [go_sem]
  · simp [go_sem]
  · simp [go_sem]
  · simp [go_sem]

theorem Cfg.there {w : World} {H k : Nat} {fa : Bool} {mb : Int} {A : Nat → Option Addr} {L C : Nat → Nat} (h : Cfg w H k fa mb A L C) : ∃ v, w.cell? ⟨H, 1, none⟩ = some v := by
  rcases h.2.2.2 with ⟨_, e⟩ | ⟨_, x, e, _⟩
  · exact ⟨_, e⟩
  · exact ⟨_, e⟩

/-- The world behind one round: a box for the doc, a box for the loader, the loader laid into the config. -/
def stepW (w : World) (H : Nat) (v : Value) : World :=
  ((w.alloc (.cells #[v] 24)).alloc (.cells #[ldr w.heap.size] 36)).setCell ⟨H, 1, none⟩ (ldr w.heap.size)

theorem cfg_next {w : World} {H k : Nat} {fa : Bool} {mb : Int} {A : Nat → Option Addr} {L C : Nat → Nat} (h : Cfg w H k fa mb A L C) :
    Cfg (stepW w H (.slice (A k) (L k) (C k))) H (k + 1) fa mb A L C := by
  obtain ⟨v, hv⟩ := h.there
  have hH := lt_of_cell hv
  have old : ∀ o, (((w.alloc (.cells #[.slice (A k) (L k) (C k)] 24)).alloc (.cells #[ldr w.heap.size] 36))).cell? ⟨H, o, none⟩ = w.cell? ⟨H, o, none⟩ := fun o => by
    rw [World.cell?_alloc_past _ _ _ (by simp; omega), World.cell?_alloc_past _ _ _ hH]
  refine ⟨?_, ?_, ?_, .inr ⟨by omega, w.heap.size, ?_, ?_⟩⟩
  · exact (World.cell?_setCell_other _ _ _ _ (by intro e; cases e)).trans ((old 0).trans h.1)
  · exact (World.cell?_setCell_other _ _ _ _ (by intro e; cases e)).trans ((old 2).trans h.2.1)
  · unfold stepW
    rw [World.frozen?_setCell, frozen?_alloc_cells, frozen?_alloc_cells]
    exact h.2.2.1
  · exact World.cell?_setCell_same _ _ _ ((old 1).trans hv)
  · unfold stepW
    rw [World.cell?_setCell_other _ _ _ _ (by intro e; have := congrArg Addr.block e; simp at this; omega), World.cell?_alloc_past _ _ _ (by simp)]
    simp [go_sem]

theorem below_step {w w0 : World} {H : Nat} (hb : Below w0.heap.size w0 w) (hH : w0.heap.size ≤ H) (v : Value) : Below w0.heap.size w0 (stepW w H v) :=
  ((hb.alloc hb.size _).alloc (Nat.le_trans hb.size (by simp)) _).setCell hH _

theorem config9 (fa : Bool) (mb : Int) (a : Option Addr) (n c : Nat) (u : ByteArray) (A : Nat → Option Addr) (L C : Nat → Nat) (B : Nat → Nat → Int) (w : World) (hn : n ≤ 4096) (hD : Docs w a n A L C B) :
    Calls Try.prog 9 #[.bool fa, .int .i64 mb, .slice a n c, .string u] w fun e w' => 
      (n = 0 ∧ e = .returned (.tuple #[.bool fa, .int .i64 mb, .bool false, .slice none 0 0, .bool false]) ∨ 
        0 < n ∧ e = .returned (.tuple #[.bool fa, .int .i64 mb, .bool true, .slice (A (n - 1)) (L (n - 1)) (C (n - 1)), .bool true])) ∧ Below w.heap.size w w' := by
  have hmf : ∀ (fn : Fn) (first cap : Array Value) (w : World), (Instr.makeFunc fn first cap).run Try.prog w = .ok (.func fn first cap) w := fun _ _ _ _ => rfl
  have q40 := neq40
  have q36 := eql36
  have q36n := eql36n
  have q45n := eql45n
  have HD := hide hD
  clear hD
  go_enter Try.func9, Try.ntmps9
  go_wp2_with fail
  go_loopw [23] (fun i wr => ∃ k : Nat, k ≤ n ∧ i = .int .i64 k ∧ Cfg wr w.heap.size k fa mb A L C ∧ Below w.heap.size w wr) (fun i _ => n - (intOf i).toNat)
  case atStart => exact ⟨0, Nat.zero_le _, rfl, cfg_start w fa mb A L C, (Below.refl _ _).alloc (Nat.le_refl _) _⟩
  case round =>
    obtain ⟨k, hk, rfl, hC, hbel⟩ := hrel
    by_cases hlt : k < n
    · obtain ⟨b, off, hx, hc⟩ := HD.out (by omega)
      cases hx
      have hck : wr.cell? ⟨b, off + k, none⟩ = some (.slice (A k) (L k) (C k)) := cell_kept hbel (hc k hlt).1
      clear hc
      go_wp2_with (first | (go_at_call 13; go_in) | (go_at_call 14; go_in))
      obtain ⟨v, hv⟩ := hC.there
      have hH := lt_of_cell hv
      refine (opt16 w.heap.size (wr.heap.size + 1) (.func 17) #[] #[.pointer (some ⟨wr.heap.size, 0, none⟩)] v _ ?_ ?_ ?_).mono ?_
      · simp [go_sem]
      · rw [World.cell?_alloc_past _ _ _ (by simp; omega), World.cell?_alloc_past _ _ _ hH]; exact hv
      · rw [frozen?_alloc_cells, frozen?_alloc_cells]; exact hC.2.2.1
      rintro e w2 ⟨rfl, hw2⟩
      have R : Cfg w2 w.heap.size (k + 1) fa mb A L C := by rw [← hw2]; exact cfg_next hC
      have hb2 : Below w.heap.size w w2 := by rw [← hw2]; exact below_step hbel (Nat.le_refl _) _
      clear hC hbel hw2 hv hH hck
      go_wp2
      go_roundw
      case rel => exact ⟨k + 1, by omega, by go_num, R, hb2⟩
      case measure => simp [intOf]; omega
    · have : k = n := by omega
      subst this
      obtain ⟨c0, c2, _, hF⟩ := hC
      rcases hF with ⟨h0, c1⟩ | ⟨h0, x, c1, cx⟩
      · subst h0
        go_wp2
        go_quiet (fail)
        go_wp2
        refine bodyPost_ret (v := .tuple #[.bool fa, .int .i64 mb, .bool false, .slice none 0 0, .bool false]) (by simp [results, Try.results9, go_sem]) rfl ?_
        exact ⟨rfl, below_drewN hbel _⟩
      · unfold ldr at c1
        go_wp2_with fail
        refine (const17 u x 0 _ _ _ _ cx).mono ?_
        rintro e w2 ⟨rfl, rfl⟩
        go_wp2
        go_quiet (fail)
        go_wp2
        refine bodyPost_ret (v := .tuple #[.bool fa, .int .i64 mb, .bool true, .slice (A (k - 1)) (L (k - 1)) (C (k - 1)), .bool true]) (by simp [results, Try.results9, go_sem]) rfl ?_
        exact ⟨.inr ⟨h0, rfl⟩, below_drewN hbel _⟩
end Go.Proofs.Qxb6618527a.Load

/-
  The walks of cloneFs, noNaN, holds; a slice of floats that came in, opened.
-/
import Derived.Test.Qxb6600053aRows
import Derived.Test.Qxb6600053aOrd
import Derived.WalkKit
import Derived.ProofKit
import Derived.WalkSpells
import Derived.WalkLawsBesides
import Derived.Deep.OwnRows
import Derived.Deep.QuietTactic
import Derived.BigQuiet
set_option linter.unusedVariables false
namespace Go.Proofs.Qxb6600053a
open Go.RowKit Go.Proofs.Qxb6600053a.Ord

theorem Try.info30 : (Try.prog.info? 30).map (fun i => (i.zero, i.size, i.bytes)) = some (some (.float .f64 0), 1, 8) := by kernel_rfl

theorem run_store_float (P : Program) (w : World) (a : Addr) (m : Mode) (k : FloatKind) (n : Nat) : (store a (.float k n) m).run P w = stored P w a (.float k n) m := run_store P w a _ m rfl
attribute [local go_sem] run_store_float

theorem cell_lt {w : World} {p : Addr} {v : Value} (h : w.cell? p = some v) : p.block < w.heap.size := by
  rcases Nat.lt_or_ge p.block w.heap.size with h' | h'
  · exact h'
  · simp [World.cell?, Array.getElem?_eq_none h'] at h

/-- A slice of floats with elements: where it leads. -/
def FRow (w : World) (x : Addr) (n : Nat) (f : Nat → Nat) : Prop := ∀ i, i < n → w.cell? (x.add i) = some (.float .f64 (f i))

theorem FRow.below {w w' : World} {x : Addr} {n : Nat} {f : Nat → Nat} (h : FRow w x n f) (hb : Below w.heap.size w w') : FRow w' x n f := fun i hi => (hb.cell (cell_lt (h i hi))).trans (h i hi)

/-- cloneFs of a slice without elements: one without elements. -/
theorem clone_zero (a : Option Addr) (c : Nat) (w : World) (hc : a = none → c = 0) :
    Calls Try.prog 12 #[.slice a 0 c] w fun e w' => (∃ a' c', e = .returned (.slice a' 0 c')) ∧ Below w.heap.size w w' := by
  cases a with
  | none =>
    obtain rfl := hc rfl
    have hn := fun (w : World) => Lib.run_eql_slice_nil (P := Try.prog) w 22 30 none 0 0 0 0 Try.underlying22
    go_enter Try.func12, Try.ntmps12
    go_wp2
    go_ret
    exact ⟨⟨_, _, rfl⟩, Below.refl _ _⟩
  | some x =>
    have hn := fun (w : World) => Lib.run_eql_slice_nil (P := Try.prog) w 22 30 (some x) 0 c 0 0 Try.underlying22
    obtain ⟨W0, hmk, hb0⟩ : ∃ W0, (Instr.makeSlice 22 (.int .i64 0) (.int .i64 0)).run Try.prog w = .ok (.slice (some ⟨w.heap.size, 0, none⟩) 0 0) W0 ∧ Below w.heap.size w W0 :=
      ⟨_, run_make_row' (P := Try.prog) 22 30 (.float .f64 0) 8 Try.underlying22 Try.info30 rfl .i64 .i64 0 (by omega) (by omega) w, (Below.refl _ _).alloc (Nat.le_refl _) _⟩
    go_enter Try.func12, Try.ntmps12
    go_wp2
    go_loop [4] (fun i => i = .int .i64 0) (fun _ => 0)
    case atStart => rfl
    case round =>
      subst hrel
      go_wp2
      go_ret
      exact ⟨⟨_, _, rfl⟩, hb0⟩

theorem clone_step {w wr : World} {n k : Nat} {f : Nat → Nat} (hr : wr.rowIs w.heap.size 30 n (fun j => if j < k then .float .f64 (f j) else .float .f64 0)) :
    (wr.setCell ⟨w.heap.size, k, none⟩ (.float .f64 (f k))).rowIs w.heap.size 30 n (fun j => if j < k + 1 then .float .f64 (f j) else .float .f64 0) := by
  refine (hr.set k _).congr fun j _ => ?_
  by_cases e : j = k
  · subst e; simp
  · by_cases h : j < k
    · simp [e, h, show j < k + 1 by omega]
    · simp [e, h, show ¬ j < k + 1 by omega]

theorem clone_some (x : Addr) (n c : Nat) (f : Nat → Nat) (w : World) (hn : n ≤ 1048576) (hc : FRow w x n f) :
    Calls Try.prog 12 #[.slice (some x) n c] w fun e w' => e = .returned (.slice (some ⟨w.heap.size, 0, none⟩) n n) ∧ Below w.heap.size w w' ∧ w'.heap.size = w.heap.size + 1 ∧ FRow w' ⟨w.heap.size, 0, none⟩ n f ∧ ∃ g, w'.rowIs w.heap.size 30 n g := by
  have hnil := fun (w : World) => Lib.run_eql_slice_nil (P := Try.prog) w 22 30 (some x) n c 0 0 Try.underlying22
  have hmk := fun (w : World) => run_make_row' (P := Try.prog) 22 30 (.float .f64 0) 8 Try.underlying22 Try.info30 rfl .i64 .i64 n (by omega) (by omega) w
  go_enter Try.func12, Try.ntmps12
  go_wp2
  go_loopw [4] (fun i wr => ∃ k : Nat, k ≤ n ∧ i = .int .i64 k ∧ Below w.heap.size w wr ∧ wr.heap.size = w.heap.size + 1 ∧ wr.rowIs w.heap.size 30 n (fun j => if j < k then .float .f64 (f j) else .float .f64 0)) (fun i _ => n - (intOf i).toNat)
  case atStart => exact ⟨0, Nat.zero_le _, rfl, (Below.refl _ _).alloc (Nat.le_refl _) _, by simp, (World.rowIs_made w _ n 30).congr (fun j _ => by simp)⟩
  case round =>
    obtain ⟨k, hk, rfl, hb, hs, hr⟩ := hrel
    by_cases hlt : k < n
    · have hcx : wr.cell? (x.add k) = some (.float .f64 (f k)) := (hb.cell (cell_lt (hc k hlt))).trans (hc k hlt)
      have hfz := hr.frozen k
      obtain ⟨v0, hv0⟩ : ∃ v0, wr.cell? ⟨w.heap.size, k, none⟩ = some v0 := ⟨_, hr.cell hlt⟩
      go_wp2
      go_roundw
      case rel => exact ⟨k + 1, by omega, by go_num, hb.setCell (Nat.le_refl _) _, by simpa using hs, clone_step hr⟩
      case measure => simp [intOf]; omega
    · go_wp2
      go_ret
      refine ⟨rfl, hb, hs, fun i hi => ?_, _, hr⟩
      have := hr.cell hi
      rw [if_pos (by omega)] at this
      rw [show (⟨w.heap.size, 0, none⟩ : Addr).add i = ⟨w.heap.size, i, none⟩ by unfold Addr.add; split <;> simp_all]
      exact this

/-- Draws alone. -/
def Same (w w' : World) : Prop := Below w.heap.size w w' ∧ w'.heap = w.heap
theorem Same.refl (w : World) : Same w w := ⟨Below.refl _ _, rfl⟩
theorem Same.drewN {w w' : World} (h : Same w w') (q : Nat) : Same w (w'.drewN q) := ⟨below_drewN h.1 q, h.2⟩
theorem Same.trans {a b c : World} (h : Same a b) (k : Same b c) : Same a c := ⟨h.1.trans (by rw [← congrArg Array.size h.2]; exact k.1), k.2.trans h.2⟩
theorem Same.cell {w w' : World} (h : Same w w') (a : Addr) : w'.cell? a = w.cell? a := by simp [World.cell?, h.2]
theorem Same.row {w w' : World} {x : Addr} {n : Nat} {f : Nat → Nat} (h : Same w w') (r : FRow w x n f) : FRow w' x n f := fun i hi => (h.cell _).trans (r i hi)

/-- No NaN among the first n. -/
def NN (f : Nat → Nat) (n : Nat) : Prop := ∀ i, i < n → O (f i) (f i) = some .eq

theorem noNaN_zero (a : Option Addr) (c : Nat) (w : World) : Calls Try.prog 25 #[.slice a 0 c] w fun e w' => e = .returned (.bool true) ∧ w = w' := by
  go_enter Try.func25, Try.ntmps25
  go_wp2
  go_loop [3] (fun i => i = .int .i64 0) (fun _ => 0)
  case atStart => rfl
  case round =>
    subst hrel
    go_wp2
    go_ret
    exact ⟨rfl, rfl⟩

theorem noNaN_pos (x : Addr) (n c : Nat) (f : Nat → Nat) (w : World) (hn : n ≤ 1048576) (hr : FRow w x n f) :
    Calls Try.prog 25 #[.slice (some x) n c] w fun e w' => ((NN f n ∧ e = .returned (.bool true)) ∨ (¬ NN f n ∧ e = .returned (.bool false))) ∧ Same w w' := by
  have HR : Hid (FRow w x n f) := hr
  clear hr
  go_enter Try.func25, Try.ntmps25
  go_wp2
  go_loopw [3] (fun i wr => ∃ k : Nat, k ≤ n ∧ i = .int .i64 k ∧ NN f k ∧ Same w wr) (fun i _ => n - (intOf i).toNat)
  case atStart => exact ⟨0, Nat.zero_le _, rfl, fun i hi => absurd hi (Nat.not_lt_zero _), Same.refl _⟩
  case round =>
    obtain ⟨k, hk, rfl, hnn, hs⟩ := hrel
    by_cases hlt : k < n
    · have hcx := (hs.cell _).trans (HR.out k hlt)
      have hlt' : (k : Int) < (n : Int) := by omega
      by_cases ho : O (f k) (f k) = some .eq
      · have hb : (FloatKind.f64.format.order (f k) (f k) != some Ordering.eq) = false := by rw [show FloatKind.f64.format.order (f k) (f k) = some .eq from ho]; rfl
        have HN : Hid (NN f (k + 1)) := fun i hi => by
          by_cases e : i = k
          · subst e; exact ho
          · exact hnn i (by omega)
        clear ho hnn
        go_wp2
        go_quiet (fail)
        go_wp2
        go_roundw
        case rel => exact ⟨k + 1, by omega, by go_num, HN.out, hs.drewN _⟩
        case measure => simp [intOf]; omega
      · have hb : (FloatKind.f64.format.order (f k) (f k) != some Ordering.eq) = true := by simpa [O] using ho
        have HN : Hid (¬ NN f n) := fun h => ho (h k hlt)
        clear ho hnn
        go_wp2
        go_quiet (fail)
        go_wp2
        go_ret
        exact ⟨.inr ⟨HN.out, rfl⟩, hs.drewN _⟩
    · go_wp2
      go_ret
      have : k = n := by omega
      subst this
      exact ⟨.inl ⟨hnn, rfl⟩, hs⟩

/-- e lies in [a, c). -/
def In (a c e : Nat) : Prop := (O a e = some .lt ∨ O a e = some .eq) ∧ O e c = some .lt
def Hold (f g p : Nat → Nat) (n : Nat) : Prop := ∀ i, i < n → In (f i) (g i) (p i)

theorem hold_succ {f g p : Nat → Nat} {k : Nat} (h : Hold f g p k) (h1 : In (f k) (g k) (p k)) : Hold f g p (k + 1) := fun i hi => by
  by_cases e : i = k
  · subst e; exact h1
  · exact h i (by omega)

theorem holds_zero (a1 a2 a3 : Option Addr) (c1 c2 c3 : Nat) (w : World) : Calls Try.prog 18 #[.slice a1 0 c1, .slice a2 0 c2, .slice a3 0 c3] w fun e w' => e = .returned (.bool true) ∧ w = w' := by
  go_enter Try.func18, Try.ntmps18
  go_wp2
  go_loop [7] (fun i => i = .int .i64 0) (fun _ => 0)
  case atStart => rfl
  case round =>
    subst hrel
    go_wp2
    go_ret
    exact ⟨rfl, rfl⟩

set_option maxHeartbeats 1000000 in
theorem holds_pos (x y z : Addr) (n c1 c2 c3 : Nat) (f g p : Nat → Nat) (w : World) (hn : n ≤ 1048576) (h1 : FRow w x n f) (h2 : FRow w y n g) (h3 : FRow w z n p) :
    Calls Try.prog 18 #[.slice (some x) n c1, .slice (some y) n c2, .slice (some z) n c3] w fun e w' => ((Hold f g p n ∧ e = .returned (.bool true)) ∨ (¬ Hold f g p n ∧ e = .returned (.bool false))) ∧ Same w w' := by
  have H1 : Hid (FRow w x n f) := h1
  have H2 : Hid (FRow w y n g) := h2
  have H3 : Hid (FRow w z n p) := h3
  clear h1 h2 h3
  have hnn : (((n : Int)) != (n : Int)) = false := by simp
  go_enter Try.func18, Try.ntmps18
  go_wp2
  go_loopw [7] (fun i wr => ∃ k : Nat, k ≤ n ∧ i = .int .i64 k ∧ Hold f g p k ∧ Same w wr) (fun i _ => n - (intOf i).toNat)
  case atStart => exact ⟨0, Nat.zero_le _, rfl, fun i hi => absurd hi (Nat.not_lt_zero _), Same.refl _⟩
  case round =>
    obtain ⟨k, hk, rfl, hh, hs⟩ := hrel
    by_cases hlt : k < n
    · have hc1 := (hs.cell _).trans (H1.out k hlt)
      have hc2 := (hs.cell _).trans (H2.out k hlt)
      have hc3 := (hs.cell _).trans (H3.out k hlt)
      have hlt' : (k : Int) < (n : Int) := by omega
      by_cases ho : O (f k) (p k) = some .lt ∨ O (f k) (p k) = some .eq
      · have hb1 : (FloatKind.f64.format.order (f k) (p k) == some Ordering.lt || FloatKind.f64.format.order (f k) (p k) == some Ordering.eq) = true := by simpa [O] using ho
        by_cases ho2 : O (p k) (g k) = some .lt
        · have hb2 : (FloatKind.f64.format.order (p k) (g k) == some Ordering.lt) = true := by simpa [O] using ho2
          have HN : Hid (Hold f g p (k + 1)) := hold_succ hh ⟨ho, ho2⟩
          clear ho ho2 hh
          go_wp2
          go_quiet (fail)
          go_wp2
          go_roundw
          case rel => exact ⟨k + 1, by omega, by go_num, HN.out, hs.drewN _⟩
          case measure => simp [intOf]; omega
        · have hb2 : (FloatKind.f64.format.order (p k) (g k) == some Ordering.lt) = false := by simpa [O] using ho2
          have HN : Hid (¬ Hold f g p n) := fun h => ho2 (h k hlt).2
          clear ho ho2 hh
          go_wp2
          go_quiet (fail)
          go_wp2
          go_ret
          exact ⟨.inr ⟨HN.out, rfl⟩, hs.drewN _⟩
      · have hb1 : (FloatKind.f64.format.order (f k) (p k) == some Ordering.lt || FloatKind.f64.format.order (f k) (p k) == some Ordering.eq) = false := by simpa [O] using ho
        have HN : Hid (¬ Hold f g p n) := fun h => ho (h k hlt).1
        clear ho hh
        go_wp2
        go_quiet (fail)
        go_wp2
        go_ret
        exact ⟨.inr ⟨HN.out, rfl⟩, hs.drewN _⟩
    · go_wp2
      go_ret
      have : k = n := by omega
      subst this
      exact ⟨.inl ⟨hh, rfl⟩, hs⟩

end Go.Proofs.Qxb6600053a

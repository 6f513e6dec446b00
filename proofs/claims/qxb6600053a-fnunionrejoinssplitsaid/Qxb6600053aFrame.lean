/-
  What the two proofs over slices of floats share: the frame's closed facts, and how such a slice is opened.
-/
import Derived.Test.Qxb6600053aSmall
import Derived.ProofKit
import Derived.OpenShut
import Derived.ShutString
import Derived.ChangeOld
import Derived.Below
set_option linter.unusedVariables false
namespace Go.Proofs.Qxb6600053a
open Go.ChangeShapes Go.WideShapes Go.ChangeAt Go.RowKit

theorem own : ownKnob Try.prog.godebug = none := by kernel_rfl
theorem laidOut : laidOutB Try.prog = true := by kernel_rfl

/-- What the walk is told of a slice of floats that came in: it is nil; or it leads to its elements. -/
def IsF (w : World) (a : Option Addr) (len cap : Nat) : Prop :=
  (a = none ∧ len = 0 ∧ cap = 0) ∨ ∃ x f, a = some x ∧ len ≤ cap ∧ cap ≤ maxLen ∧ FRow w x len f

theorem open_floats {H : Type} {enc : TypeId × Value → H} {w : World} {base : Nat} {spare : Nat → Bool} {held : Bool} {fuel : Nat} {a : Option Addr} {len cap : Nat} {x : DataW H × List MemPlace}
    (h : DataW.trod enc Try.prog w base spare held fuel 22 [.slice a len cap] = some x) : IsF w a len cap := by
  rcases DataW.trod_slice Try.underlying22 h with ⟨h0, _⟩ | ⟨ad, len', cap', elems, rest, n, _, hcs, _, hb, hl, hm, hlen, hel, _⟩
  · simp at h0
    exact .inl h0
  · simp at hcs
    obtain ⟨rfl, rfl, rfl⟩ := hcs
    refine .inr ⟨ad, fun i => match w.cell? (ad.add i) with | some (.float _ b) => b | _ => 0, rfl, hl, hm, fun i hi => ?_⟩
    have he := hel i hi
    have hc : Try.prog.cellsOf 30 = 1 := by kernel_rfl
    rw [hc, Nat.mul_one, List.getElem?_eq_getElem (by omega), Option.bind_eq_some_iff] at he
    obtain ⟨cs', hcs', hy'⟩ := he
    have hcell := fun v (hv : cs' = [v]) => cell_of_cells?_one (hv ▸ hcs')
    cases n with
    | zero => simp [DataW.trod] at hy'
    | succ n =>
      obtain ⟨b, hb'⟩ : ∃ b, cs' = [.float .f64 b] := by
        simp only [DataW.trod, Try.underlying30] at hy'
        split at hy'
        all_goals first
          | (rename_i k b; cases k <;> simp_all; done)
          | simp_all
      have := hcell _ hb'
      simp [this]

end Go.Proofs.Qxb6600053a

/-
  The worlds inside (Zone).union.
-/
import Derived.Test.Qxb6600053aUnion0
import Derived.Test.Qxb6600053aParent
import Derived.Deep.Cut
import Derived.Deep.CutRange
set_option linter.unusedVariables false
namespace Go.Proofs.Qxb6600053a
open Go.RowKit Go.Proofs.Qxb6600053a.Ord
attribute [local go_sem] run_store_float

/-- The world inside union, ahead of its answer. -/
structure UIn (w wr : World) (z1 z2 z3 z4 : Value) : Prop where
  below : Below w.heap.size w wr
  size : w.heap.size + 1 + 1 + 1 ≤ wr.heap.size
  boxZ : wr.heap[w.heap.size]? = some (.cells #[z1, z2] 26 (0, 0))
  boxO : wr.heap[w.heap.size + 1]? = some (.cells #[z3, z4] 26 (0, 0))
  boxU : wr.heap[w.heap.size + 1 + 1]? = some (.cells #[.slice none 0 0, .slice none 0 0] 26 (0, 0))

namespace UIn
variable {w wr : World} {z1 z2 z3 z4 : Value}
theorem same {wr' : World} (h : UIn w wr z1 z2 z3 z4) (hs : Same wr wr') : UIn w wr' z1 z2 z3 z4 :=
  ⟨h.below.trans (hs.1.mono h.below.size), by rw [hs.2]; exact h.size, by rw [hs.2]; exact h.boxZ, by rw [hs.2]; exact h.boxO, by rw [hs.2]; exact h.boxU⟩
theorem later {wr' : World} {B : Nat} (h : UIn w wr z1 z2 z3 z4) (hb : Below B wr wr') (hB : w.heap.size + 1 + 1 + 1 ≤ B) : UIn w wr' z1 z2 z3 z4 :=
  ⟨h.below.trans (hb.mono (by omega)), Nat.le_trans h.size hb.size, (hb.block _ (by omega)).trans h.boxZ, (hb.block _ (by omega)).trans h.boxO, (hb.block _ (by omega)).trans h.boxU⟩
theorem drew (h : UIn w wr z1 z2 z3 z4) : UIn w wr.drew z1 z2 z3 z4 := ⟨h.below.drew, h.size, h.boxZ, h.boxO, h.boxU⟩
theorem drewN (h : UIn w wr z1 z2 z3 z4) (q : Nat) : UIn w (wr.drewN q) z1 z2 z3 z4 := h.same ((Same.refl _).drewN q)
end UIn

/-- The world behind the making of the joint zone. -/
structure UOut (w wr : World) (z1 z2 z3 z4 : Value) (n B bA bB capA capB : Nat) (f1 f2 : Nat → Nat) : Prop where
  u : UIn w wr z1 z2 z3 z4
  boxR : wr.heap[B]? = some (.cells #[.slice (some ⟨bA, 0, none⟩) n capA, .slice (some ⟨bB, 0, none⟩) n capB] 26 (0, 0))
  oA : Own wr bA n f1
  oB : Own wr bB n f2
  hA : w.heap.size + 1 + 1 < bA
  hB : w.heap.size + 1 + 1 < bB
  hR : w.heap.size + 1 + 1 < B
  dAB : bA ≠ bB
  dAR : bA ≠ B
  dBR : bB ≠ B

theorem Own.drew {w : World} {b n : Nat} {f : Nat → Nat} (h : Own w b n f) : Own w.drew b n f := h
theorem Own.lt {w : World} {b n : Nat} {f : Nat → Nat} (h : Own w b n f) : b < w.heap.size := by
  obtain ⟨cur, hc, _⟩ := h
  rcases Nat.lt_or_ge b w.heap.size with h' | h'
  · exact h'
  · rw [Array.getElem?_eq_none h'] at hc; cases hc
theorem mkOut {w wr : World} {z1 z2 z3 z4 : Value} {n bA bB capA capB : Nat} {f1 f2 : Nat → Nat} (u : UIn w wr z1 z2 z3 z4) (oA : Own wr bA n f1) (oB : Own wr bB n f2) (hA : w.heap.size + 1 + 1 < bA) (hB : w.heap.size + 1 + 1 < bB) (d : bA ≠ bB) :
    UOut w (wr.alloc (.cells #[.slice (some ⟨bA, 0, none⟩) n capA, .slice (some ⟨bB, 0, none⟩) n capB] 26)) z1 z2 z3 z4 n wr.heap.size bA bB capA capB f1 f2 := by
  have hb : Below wr.heap.size wr (wr.alloc (.cells #[.slice (some ⟨bA, 0, none⟩) n capA, .slice (some ⟨bB, 0, none⟩) n capB] 26)) := (Below.refl _ _).alloc (Nat.le_refl _) _
  have lA := oA.lt
  have lB := oB.lt
  have := u.size
  exact ⟨u.later hb u.size, heap_alloc_new _ _, oA.below hb lA, oB.below hb lB, hA, hB, by omega, d, by omega, by omega⟩
theorem UOut.drew {w wr : World} {z1 z2 z3 z4 : Value} {n B bA bB capA capB : Nat} {f1 f2 : Nat → Nat} (h : UOut w wr z1 z2 z3 z4 n B bA bB capA capB f1 f2) : UOut w wr.drew z1 z2 z3 z4 n B bA bB capA capB f1 f2 :=
  ⟨h.u.drew, h.boxR, h.oA, h.oB, h.hA, h.hB, h.hR, h.dAB, h.dAR, h.dBR⟩
theorem UIn.set {w wr : World} {z1 z2 z3 z4 : Value} (h : UIn w wr z1 z2 z3 z4) (b k : Nat) (v : Value) (hb : w.heap.size + 1 + 1 < b) : UIn w (wr.setCell ⟨b, k, none⟩ v) z1 z2 z3 z4 :=
  h.later (B := w.heap.size + 1 + 1 + 1) ((Below.refl _ _).setCell (p := ⟨b, k, none⟩) (by show w.heap.size + 1 + 1 + 1 ≤ b; omega) _) (Nat.le_refl _)
theorem Own.other {w : World} {b n : Nat} {f : Nat → Nat} (h : Own w b n f) (b' k : Nat) (v : Value) (hb : b ≠ b') : Own (w.setCell ⟨b', k, none⟩ v) b n f := by
  obtain ⟨cur, hc, hv⟩ := h
  exact ⟨cur, by rw [Below.heap_setCell _ _ _ _ hb]; exact hc, hv⟩
theorem UOut.setA {w wr : World} {z1 z2 z3 z4 : Value} {n B bA bB capA capB : Nat} {f1 f2 : Nat → Nat} (h : UOut w wr z1 z2 z3 z4 n B bA bB capA capB f1 f2) (k v : Nat) : UOut w (wr.setCell ⟨bA, k, none⟩ (.float .f64 v)) z1 z2 z3 z4 n B bA bB capA capB (fun i => if i = k then v else f1 i) f2 :=
  ⟨h.u.set _ _ _ h.hA, by rw [Below.heap_setCell _ _ _ _ (Ne.symm h.dAR)]; exact h.boxR, h.oA.set k v, h.oB.other _ _ _ (Ne.symm h.dAB), h.hA, h.hB, h.hR, h.dAB, h.dAR, h.dBR⟩
theorem UOut.setB {w wr : World} {z1 z2 z3 z4 : Value} {n B bA bB capA capB : Nat} {f1 f2 : Nat → Nat} (h : UOut w wr z1 z2 z3 z4 n B bA bB capA capB f1 f2) (k v : Nat) : UOut w (wr.setCell ⟨bB, k, none⟩ (.float .f64 v)) z1 z2 z3 z4 n B bA bB capA capB f1 (fun i => if i = k then v else f2 i) :=
  ⟨h.u.set _ _ _ h.hB, by rw [Below.heap_setCell _ _ _ _ (Ne.symm h.dBR)]; exact h.boxR, h.oA.other _ _ _ h.dAB, h.oB.set k v, h.hA, h.hB, h.hR, h.dAB, h.dAR, h.dBR⟩

theorem three0 (w : World) (a b c : Obj) : (((w.alloc a).alloc b).alloc c).heap[w.heap.size]? = some a := by
  rw [Lib.alloc_old _ _ _ (by simp; omega), Lib.alloc_old _ _ _ (by simp), heap_alloc_new]
theorem three1 (w : World) (a b c : Obj) : (((w.alloc a).alloc b).alloc c).heap[w.heap.size + 1]? = some b := by
  rw [Lib.alloc_old _ _ _ (by simp), ← World.size_alloc w a, heap_alloc_new]
theorem three2 (w : World) (a b c : Obj) : (((w.alloc a).alloc b).alloc c).heap[w.heap.size + 1 + 1]? = some c := by
  rw [← World.size_alloc w a, ← World.size_alloc (w.alloc a) b, heap_alloc_new]
theorem ustart (w : World) (z1 z2 z3 z4 : Value) : UIn w (((w.alloc (.cells #[z1, z2] 26)).alloc (.cells #[z3, z4] 26)).alloc (.cells #[.slice none 0 0, .slice none 0 0] 26)) z1 z2 z3 z4 :=
  ⟨(((Below.refl _ w).alloc (Nat.le_refl _) _).alloc (by simp) _).alloc (by simp; omega) _, by simp, three0 w _ _ _, three1 w _ _ _, three2 w _ _ _⟩

theorem UIn.alloc {w wr : World} {z1 z2 z3 z4 : Value} (h : UIn w wr z1 z2 z3 z4) (o : Obj) : UIn w (wr.alloc o) z1 z2 z3 z4 := h.later ((Below.refl _ _).alloc (Nat.le_refl _) o) h.size

/-- A zone's box that was made and not yet filled. -/
def Bare (w : World) (b : Nat) : Prop := w.heap[b]? = some (.cells #[.slice none 0 0, .slice none 0 0] 26 (0, 0))
theorem Bare.facts {w : World} {b : Nat} (h : Bare w b) : w.cell? ⟨b, 0, none⟩ = some (.slice none 0 0) ∧ w.cell? ⟨b, 1, none⟩ = some (.slice none 0 0) ∧ w.frozen? ⟨b, 0, none⟩ = false ∧ w.frozen? ⟨b, 1, none⟩ = false :=
  ⟨by rw [Lib.cell_of_heap h]; rfl, by rw [Lib.cell_of_heap h]; rfl, Lib.frozen_of_heap h 0, Lib.frozen_of_heap h 1⟩
theorem Bare.lt {w : World} {b : Nat} (h : Bare w b) : b < w.heap.size := by
  rcases Nat.lt_or_ge b w.heap.size with h' | h'
  · exact h'
  · unfold Bare at h; rw [Array.getElem?_eq_none h'] at h; cases h
theorem Bare.made (w : World) : Bare (w.alloc (.cells #[.slice none 0 0, .slice none 0 0] 26)) w.heap.size := heap_alloc_new w _
theorem Bare.made' (w : World) : Bare (w.alloc (.cells #[.slice none 0 0, .slice none 0 0] 26)).drew w.heap.size := heap_alloc_new w _
theorem Bare.below {w w' : World} {b : Nat} (h : Bare w b) (hb : Below w.heap.size w w') : Bare w' b := (hb.block b h.lt).trans h
theorem mkOut2 {w wr : World} {z1 z2 z3 z4 : Value} {n B bA bB capA capB : Nat} {f1 f2 : Nat → Nat} (u : UIn w wr z1 z2 z3 z4) (h : Bare wr B) (oA : Own wr bA n f1) (oB : Own wr bB n f2) (hA : w.heap.size + 1 + 1 < bA) (hB : w.heap.size + 1 + 1 < bB) (hR : w.heap.size + 1 + 1 < B) (d : bA ≠ bB) (dA : bA ≠ B) (dB : bB ≠ B) :
    UOut w ((wr.setCell ⟨B, 0, none⟩ (.slice (some ⟨bA, 0, none⟩) n capA)).setCell ⟨B, 1, none⟩ (.slice (some ⟨bB, 0, none⟩) n capB)) z1 z2 z3 z4 n B bA bB capA capB f1 f2 := by
  refine ⟨(u.set _ _ _ hR).set _ _ _ hR, ?_, (oA.other _ _ _ dA).other _ _ _ dA, (oB.other _ _ _ dB).other _ _ _ dB, hA, hB, hR, d, dA, dB⟩
  unfold Bare at h
  simp [World.setCell, Array.getElem?_modify, h]

end Go.Proofs.Qxb6600053a

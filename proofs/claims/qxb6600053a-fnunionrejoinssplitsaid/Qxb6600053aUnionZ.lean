/-
  ZZUnion out of union; cloneFs with the block that it made.
-/
import Derived.Test.Qxb6600053aUnionIn
set_option linter.unusedVariables false
namespace Go.Proofs.Qxb6600053a
open Go.RowKit Go.Proofs.Qxb6600053a.Ord
attribute [local go_sem] run_store_float

theorem add_block (x : Addr) (i : Nat) : (x.add i).block = x.block := by unfold Addr.add; split <;> rfl
theorem FRow.other {w : World} {x : Addr} {n : Nat} {f : Nat → Nat} (h : FRow w x n f) (b k : Nat) (v : Value) (hb : x.block ≠ b) : FRow (w.setCell ⟨b, k, none⟩ v) x n f := fun i hi => by
  rw [← h i hi]
  exact World.cell?_of_block (w := w) (Below.heap_setCell w ⟨b, k, none⟩ v _ (by rw [add_block]; exact hb))

/-- cloneFs, and the block that it made. -/
theorem clone_own (x : Addr) (n c : Nat) (f : Nat → Nat) (w : World) (hn : n ≤ 1048576) (hr : FRow w x n f) :
    Calls Try.prog 12 #[.slice (some x) n c] w fun e w' => ∃ b, e = .returned (.slice (some ⟨b, 0, none⟩) n n) ∧ w.heap.size ≤ b ∧ b < w'.heap.size ∧ Below w.heap.size w w' ∧ Own w' b n f :=
  (clone_some x n c f w hn hr).mono fun e w' h => by
    obtain ⟨he, hb, hs, hf, g, cur, hc, hcs, hg⟩ := h
    refine ⟨_, he, Nat.le_refl _, by omega, hb, cur, hc, fun i hi => ?_⟩
    have := hf i hi
    rw [add_lit, Lib.cell_of_heap hc] at this
    rw [hg i hi]
    simpa [hg i hi] using this

set_option maxHeartbeats 1000000 in
theorem zzunion_of {s1 s2 s3 s4 : Value} {w : World} {n : Nat} {p1 p2 : Nat → Nat} (h1n : 1 ≤ n)
    (h : ∀ W : World, Below w.heap.size w W → Calls Try.prog 30 #[.agg #[s1, s2], .agg #[s3, s4]] W fun e w' => (∃ b1 b2 k1 k2, e = .returned (.tuple #[.agg #[.slice (some ⟨b1, 0, none⟩) n k1, .slice (some ⟨b2, 0, none⟩) n k2], .bool true]) ∧ FRow w' ⟨b1, 0, none⟩ n p1 ∧ FRow w' ⟨b2, 0, none⟩ n p2) ∧ Below W.heap.size W w') :
    Calls Try.prog 13 #[.agg #[s1, s2], .agg #[s3, s4]] w fun e w' => (∃ b1 b2 k1 k2, e = .returned (.tuple #[.agg #[.slice (some ⟨b1, 0, none⟩) n k1, .slice (some ⟨b2, 0, none⟩) n k2], .bool true]) ∧ FRow w' ⟨b1, 0, none⟩ n p1 ∧ FRow w' ⟨b2, 0, none⟩ n p2) ∧ Below w.heap.size w w' := by
  have hU := ustart w s1 s2 s3 s4
  have h' := h _ hU.below
  have H : Hid (Calls Try.prog 30 #[.agg #[s1, s2], .agg #[s3, s4]] (((w.alloc (.cells #[s1, s2] 26)).alloc (.cells #[s3, s4] 26)).alloc (.cells #[.slice none 0 0, .slice none 0 0] 26)) fun e w' => (∃ b1 b2 k1 k2, e = .returned (.tuple #[.agg #[.slice (some ⟨b1, 0, none⟩) n k1, .slice (some ⟨b2, 0, none⟩) n k2], .bool true]) ∧ FRow w' ⟨b1, 0, none⟩ n p1 ∧ FRow w' ⟨b2, 0, none⟩ n p2) ∧ Below (((w.alloc (.cells #[s1, s2] 26)).alloc (.cells #[s3, s4] 26)).alloc (.cells #[.slice none 0 0, .slice none 0 0] 26)).heap.size (((w.alloc (.cells #[s1, s2] 26)).alloc (.cells #[s3, s4] 26)).alloc (.cells #[.slice none 0 0, .slice none 0 0] 26)) w') := h'
  clear h h'
  go_enter Try.func13, Try.ntmps13
  go_wp2_with fail
  refine H.out.mono ?_
  rintro e w1 ⟨⟨b1, b2, k1, k2, rfl, hf1, hf2⟩, hb⟩
  have hU1 := hU.later hb hU.size
  have hBare : Bare w1 (w.heap.size + 1 + 1) := hU1.boxU
  obtain ⟨y1, y2, y3, y4⟩ := hBare.facts
  have d1 : b1 ≠ w.heap.size + 1 + 1 := by
    rintro rfl
    have := hf1 0 h1n
    rw [add_lit, y1] at this
    cases this
  have d2 : b2 ≠ w.heap.size + 1 + 1 := by
    rintro rfl
    have := hf2 0 h1n
    rw [add_lit, y1] at this
    cases this
  have HF : Hid (FRow w1 ⟨b1, 0, none⟩ n p1 ∧ FRow w1 ⟨b2, 0, none⟩ n p2) := ⟨hf1, hf2⟩
  have HB : Hid (Below w.heap.size w w1) := hU1.below
  clear hf1 hf2 hb hU hU1 H hBare
  go_wp2
  refine bodyPost_ret (v := .tuple #[.agg #[.slice (some ⟨b1, 0, none⟩) n k1, .slice (some ⟨b2, 0, none⟩) n k2], .bool true]) (by simp [results, Try.results13, go_sem, y1, y2]) rfl ⟨⟨_, _, _, _, rfl, ?_, ?_⟩, ?_⟩
  · exact (HF.out.1.other _ _ _ d1).other _ _ _ d1
  · exact (HF.out.2.other _ _ _ d2).other _ _ _ d2
  · exact (HB.out.setCell (p := ⟨w.heap.size + 1 + 1, 0, none⟩) (by show w.heap.size ≤ w.heap.size + 1 + 1; omega) _).setCell (p := ⟨w.heap.size + 1 + 1, 1, none⟩) (by show w.heap.size ≤ w.heap.size + 1 + 1; omega) _

end Go.Proofs.Qxb6600053a

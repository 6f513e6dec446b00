/-
  The small walks of the union's law: the bound, wellFormed, sameF, sameFs, slices.Clone.
-/
import Derived.Test.Qxb6600053aSmall
import Derived.BigRegion
import Derived.Lib.Builder
import Derived.Deep.RegionWith
import Derived.Laws.AppendOwn
import Derived.Maps.AppendAt
set_option linter.unusedVariables false
namespace Go.Proofs.Qxb6600053a
open Go.RowKit Go.Proofs.Qxb6600053a.Ord

/-- What is ordered against something is no NaN. -/
theorem self_of_notNaN {x : Nat} (h : (FloatKind.f64.format.read x).isNaN = false) : O x x = some .eq := by
  unfold O Ieee.Format.order
  have u := under_min (place (FloatKind.f64.format.read x)) _ (Int.le_refl _)
  rw [order_key (b := place (FloatKind.f64.format.read x)) (M := (val (place (FloatKind.f64.format.read x)) (FloatKind.f64.format.read x)).natAbs + 1) h h u u (by omega) (by omega)]
  simp
theorem self_left {x y : Nat} {o : Ordering} (h : O x y = some o) : O x x = some .eq := by
  refine self_of_notNaN ?_
  unfold O Ieee.Format.order at h
  cases e : FloatKind.f64.format.read x with
  | nan s t => rw [e] at h; simp [Ieee.Datum.order] at h
  | _ => rfl
theorem self_right {x y : Nat} {o : Ordering} (h : O x y = some o) : O y y = some .eq := by
  refine self_of_notNaN ?_
  unfold O Ieee.Format.order at h
  cases e : FloatKind.f64.format.read y with
  | nan s t => rw [e] at h; cases e' : FloatKind.f64.format.read x <;> rw [e'] at h <;> simp [Ieee.Datum.order] at h
  | _ => rfl
theorem swap_lt {x y : Nat} (h : O x y = some .lt) : O y x = some .gt := by
  obtain ⟨a, b, c, h1, h2, _⟩ := keys3 (self_left h) (self_right h) (self_right h)
  rw [h1] at h
  simp only [Option.some.injEq, Int.compare_eq_lt] at h
  rw [h2]
  simp only [Option.some.injEq, Int.compare_eq_gt]
  exact h

theorem bytes15_yes (a0 a1 : Option Addr) (n0 n1 c0 c1 : Nat) (k c : Value) (w : World) (h : n0 + n1 ≤ 1048576) :
    Calls Try.prog 15 #[.slice a0 n0 c0, .slice a1 n1 c1, k, c] w fun e w' => e = .returned (.bool true) ∧ w = w' := by
  go_enter Try.func15, Try.ntmps15
  go_wp2
  go_ret
  exact ⟨rfl, rfl⟩
theorem bytes15_no (a0 a1 : Option Addr) (n0 n1 c0 c1 : Nat) (k c : Value) (w : World) (h : ¬ n0 + n1 ≤ 1048576) (b0 : n0 ≤ 9223372036854775807) (b1 : n1 ≤ 9223372036854775807) :
    Calls Try.prog 15 #[.slice a0 n0 c0, .slice a1 n1 c1, k, c] w fun e w' => e = .returned (.bool false) ∧ w = w' := by
  rcases (show 1048576 < n0 ∨ (n0 ≤ 1048576 ∧ 1048576 < n1) ∨ (n0 ≤ 1048576 ∧ n1 ≤ 1048576 ∧ 1048576 < n0 + n1) by omega) with h' | ⟨h1, h'⟩ | ⟨h1, h2, h'⟩
  all_goals
    clear h
    go_enter Try.func15, Try.ntmps15
    go_wp2
    go_ret
    exact ⟨rfl, rfl⟩

def WF (f g : Nat → Nat) (n : Nat) : Prop := ∀ i, i < n → O (f i) (g i) = some .lt

set_option maxHeartbeats 1000000 in
theorem wellFormed_pos (x y : Addr) (n c1 c2 : Nat) (f g : Nat → Nat) (w : World) (hn : n ≤ 1048576) (h1 : FRow w x n f) (h2 : FRow w y n g) :
    Calls Try.prog 16 #[.slice (some x) n c1, .slice (some y) n c2] w fun e w' => ((WF f g n ∧ e = .returned (.bool true)) ∨ (¬ WF f g n ∧ e = .returned (.bool false))) ∧ Same w w' := by
  have H1 : Hid (FRow w x n f) := h1
  have H2 : Hid (FRow w y n g) := h2
  clear h1 h2
  have hnn : (((n : Int)) != (n : Int)) = false := by simp
  go_enter Try.func16, Try.ntmps16
  go_wp2
  go_loopw [5] (fun i wr => ∃ k : Nat, k ≤ n ∧ i = .int .i64 k ∧ WF f g k ∧ Same w wr) (fun i _ => n - (intOf i).toNat)
  case atStart => exact ⟨0, Nat.zero_le _, rfl, fun i hi => absurd hi (Nat.not_lt_zero _), Same.refl _⟩
  case round =>
    obtain ⟨k, hk, rfl, hh, hs⟩ := hrel
    by_cases hlt : k < n
    · have hc1 := (hs.cell _).trans (H1.out k hlt)
      have hc2 := (hs.cell _).trans (H2.out k hlt)
      have hlt' : (k : Int) < (n : Int) := by omega
      by_cases ho : O (f k) (g k) = some .lt
      · have hb1 : (FloatKind.f64.format.order (f k) (g k) == some Ordering.lt) = true := by simpa [O] using ho
        have HN : Hid (WF f g (k + 1)) := fun i hi => by
          by_cases e : i = k
          · subst e; exact ho
          · exact hh i (by omega)
        clear ho hh
        go_wp2
        go_quiet (fail)
        go_wp2
        go_roundw
        case rel => exact ⟨k + 1, by omega, by go_num, HN.out, hs.drewN _⟩
        case measure => simp [intOf]; omega
      · have hb1 : (FloatKind.f64.format.order (f k) (g k) == some Ordering.lt) = false := by simpa [O] using ho
        have HN : Hid (¬ WF f g n) := fun h => ho (h k hlt)
        clear ho hh
        go_wp2
        go_quiet (fail)
        go_wp2
        go_ret
        exact ⟨.inr ⟨HN.out, rfl⟩, hs.drewN _⟩
    · go_wp2
      go_ret
      have : k = n := by omega
      subst this
      exact ⟨.inl ⟨hh, rfl⟩, hs⟩

theorem sameF_yes (a : Nat) (w : World) (h : O a a = some .eq) : Calls Try.prog 31 #[.float .f64 a, .float .f64 a] w fun e w' => e = .returned (.bool true) ∧ w = w' := by
  have hb : (FloatKind.f64.format.order a a == some Ordering.eq) = true := by simpa [O] using h
  clear h
  go_enter Try.func31, Try.ntmps31
  go_wp2
  go_ret
  exact ⟨rfl, rfl⟩

set_option maxHeartbeats 1000000 in
theorem sameFs_yes (x y : Addr) (n c1 c2 : Nat) (f : Nat → Nat) (w : World) (hn : n ≤ 1048576) (h1 : FRow w x n f) (h2 : FRow w y n f) (hN : NN f n) :
    Calls Try.prog 14 #[.slice (some x) n c1, .slice (some y) n c2] w fun e w' => e = .returned (.bool true) ∧ Same w w' := by
  have H1 : Hid (FRow w x n f) := h1
  have H2 : Hid (FRow w y n f) := h2
  have H3 : Hid (NN f n) := hN
  clear h1 h2 hN
  have hnn : (((n : Int)) != (n : Int)) = false := by simp
  go_enter Try.func14, Try.ntmps14
  go_wp2
  go_loopw [5] (fun i wr => ∃ k : Nat, k ≤ n ∧ i = .int .i64 k ∧ Same w wr) (fun i _ => n - (intOf i).toNat)
  case atStart => exact ⟨0, Nat.zero_le _, rfl, Same.refl _⟩
  case round =>
    obtain ⟨k, hk, rfl, hs⟩ := hrel
    by_cases hlt : k < n
    · have hc1 := (hs.cell _).trans (H1.out k hlt)
      have hc2 := (hs.cell _).trans (H2.out k hlt)
      have hlt' : (k : Int) < (n : Int) := by omega
      have ho := H3.out k hlt
      have HO : Hid (O (f k) (f k) = some .eq) := ho
      clear ho
      go_wp2
      go_region_with (go_at_call 31; refine (sameF_yes _ _ HO.out).mono ?_; rintro e w' ⟨rfl, rfl⟩)
      all_goals
        go_wp2
        go_roundw
        case rel => exact ⟨k + 1, by omega, by go_num, by first | exact hs.drewN _ | exact hs.drewN 1⟩
        case measure => simp [intOf]; omega
    · go_wp2
      go_ret
      exact ⟨rfl, hs⟩

/-- A block that holds n floats, and may be written. -/
def Own (w : World) (b n : Nat) (f : Nat → Nat) : Prop := ∃ cur, w.heap[b]? = some (.cells cur 30 (0, 0)) ∧ ∀ i, i < n → cur[i]? = some (.float .f64 (f i))

theorem add_lit (b i : Nat) : (⟨b, 0, none⟩ : Addr).add i = ⟨b, i, none⟩ := by unfold Addr.add; split <;> simp_all
theorem Own.cell {w : World} {b n : Nat} {f : Nat → Nat} (h : Own w b n f) {i : Nat} (hi : i < n) : w.cell? ⟨b, i, none⟩ = some (.float .f64 (f i)) := by
  obtain ⟨cur, hc, hv⟩ := h
  rw [Lib.cell_of_heap hc]
  simp [hv i hi]
theorem Own.row {w : World} {b n : Nat} {f : Nat → Nat} (h : Own w b n f) : FRow w ⟨b, 0, none⟩ n f := fun i hi => by
  rw [add_lit]; exact h.cell hi
theorem Own.frozen {w : World} {b n : Nat} {f : Nat → Nat} (h : Own w b n f) (k : Nat) : w.frozen? ⟨b, k, none⟩ = false := by
  obtain ⟨cur, hc, _⟩ := h
  exact Lib.frozen_of_heap hc k
theorem Own.below {w w' : World} {b n B : Nat} {f : Nat → Nat} (h : Own w b n f) (hb : Below B w w') (hB : b < B) : Own w' b n f := by
  obtain ⟨cur, hc, hv⟩ := h
  exact ⟨cur, (hb.block b hB).trans hc, hv⟩
theorem Own.set {w : World} {b n : Nat} {f : Nat → Nat} (h : Own w b n f) (k v : Nat) : Own (w.setCell ⟨b, k, none⟩ (.float .f64 v)) b n (fun i => if i = k then v else f i) := by
  obtain ⟨cur, hc, hv⟩ := h
  refine ⟨cur.setIfInBounds k (.float .f64 v), ?_, fun i hi => ?_⟩
  · simp [World.setCell, Array.getElem?_modify, hc]
  · have := hv i hi
    have hlt : i < cur.size := by
      rcases Nat.lt_or_ge i cur.size with h | h
      · exact h
      · rw [Array.getElem?_eq_none h] at this; cases this
    rw [Array.getElem?_setIfInBounds]
    by_cases e : k = i
    · subst e; simp [hlt]
    · rw [if_neg e, this]
      simp [Ne.symm e]

theorem list_get (f : Nat → Nat) (n j : Nat) (u : Value) (h : ((List.range n).map fun i => Value.float .f64 (f i))[j]? = some u) : j < n ∧ u = .float .f64 (f j) := by
  rcases Nat.lt_or_ge j n with hj | hj
  · simp [hj] at h; exact ⟨hj, h.symm⟩
  · rw [List.getElem?_eq_none (by simp; omega)] at h; cases h

set_option maxHeartbeats 1000000 in
/-- slices.Clone of a slice with elements. -/
theorem clone34 (x : Addr) (n c : Nat) (f : Nat → Nat) (w : World) (h1 : 1 ≤ n) (hn : n ≤ 1048576) (hr : FRow w x n f) :
    Calls Try.prog 34 #[.slice (some x) n c] w fun e w' => ∃ b cap, e = .returned (.slice (some ⟨b, 0, none⟩) n cap) ∧ w.heap.size ≤ b ∧ b < w'.heap.size ∧ Below w.heap.size w w' ∧ Own w' b n f := by
  have hnil := fun (w : World) => Lib.run_eql_slice_nil (P := Try.prog) w 22 30 (some x) n c 0 0 Try.underlying22
  obtain ⟨i0, hi, hz0, hz1, hz2⟩ := info_parts Try.info30
  have hown : (w.alloc (.cells #[] 30)).ownsRow w.heap.size 30 1 (.slice (some ⟨w.heap.size, 0, none⟩) 0 0) 0 [] := by
    refine ⟨rfl, .inr ⟨w.heap.size, 0, #[], rfl, Nat.le_refl _, heap_alloc_new w _, Nat.le_refl _, Nat.zero_le _, rfl, rfl⟩⟩
  have hl : ((List.range n).map fun i => Value.float .f64 (f i)).length = n * 1 := by simp
  have hcs : ∀ j u, ((List.range n).map fun i => Value.float .f64 (f i))[j]? = some u → (w.alloc (.cells #[] 30)).cell? (x.add j) = some u := fun j u hu => by
    obtain ⟨hj, rfl⟩ := list_get f n j u hu
    exact (((Below.refl w.heap.size w).alloc (Nat.le_refl _) _).cell (cell_lt (hr j hj))).trans (hr j hj)
  have hon : ∀ u ∈ ((List.range n).map fun i => Value.float .f64 (f i)), u.oneCell' = true := fun u hu => by
    simp at hu
    obtain ⟨i, _, rfl⟩ := hu
    rfl
  have HO : Hid _ := hown
  have HL : Hid _ := hl
  have HC : Hid _ := hcs
  have HON : Hid _ := hon
  clear hown hl hcs hon hr
  have hs1 : (w.alloc (.cells #[] 30)).heap.size = w.heap.size + 1 := by simp
  go_enter Try.func34, Try.ntmps34
  go_wp2_with (at_builtin; refine wpList_append_own _ rfl _ _ 22 rfl w.heap.size 30 i0 (.float .f64 0) 1 8 Try.underlying22 hi hz0 hz1 hz2 rfl (by decide) _ _ _ rfl HO.out x n c _ rfl HL.out HC.out HON.out (by unfold maxLen; omega) (by omega) (by simp) ?_; intro v' w3 hown' hgrow3 hnil3)
  rcases hown'.2 with ⟨_, h⟩ | ⟨b, cap, cur, rfl, hb, hcur, hc1, hc2, hc3, hc4⟩
  · omega
  go_wp2
  go_ret
  refine ⟨b, ⟨cap, by simp⟩, hb, ?_, ?_, cur, hcur, fun i hi => ?_⟩
  · rcases Nat.lt_or_ge b w3.heap.size with h | h
    · exact h
    · rw [Array.getElem?_eq_none h] at hcur; cases hcur
  · exact (((Below.refl w.heap.size w).alloc (Nat.le_refl _) _).grown hgrow3 (by simp) (fun k hk => by cases hk; exact Nat.le_refl _))
  · have : (cur.toList.take ((0 + n) * 1))[i]? = some (.float .f64 (f i)) := by rw [hc4]; simp [hi]
    rw [List.getElem?_take_of_lt (by omega)] at this
    simpa using this

end Go.Proofs.Qxb6600053a

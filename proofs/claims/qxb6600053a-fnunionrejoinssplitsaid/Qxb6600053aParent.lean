/-
  The walk of parentOf: whether it is a child, and how long its position is.
-/
import Derived.Test.Qxb6600053aSmall
import Derived.BigRegion
import Derived.Lib.Builder
set_option linter.unusedVariables false
namespace Go.Proofs.Qxb6600053a
open Go.RowKit Go.Proofs.Qxb6600053a.Ord

theorem Try.info4 : (Try.prog.info? 4).map (fun i => (i.zero, i.size, i.bytes)) = some (some (.bool false), 1, 1) := by kernel_rfl
attribute [local go_sem] run_store_float

/-- Go's max and min of two float64s that are no NaN. -/
def mx (a b : Nat) : Nat := match O a b with | some .lt => b | some .gt => a | _ => if (FloatKind.f64.decode a).neg then b else a
def mn (a b : Nat) : Nat := match O a b with | some .lt => a | some .gt => b | _ => if (FloatKind.f64.decode a).neg then a else b

theorem run_max (ts : Array TypeId) (t : TypeId) (a b : Nat) (h : (O a b).isSome = true) (P : Program) (w : World) : (Builtin.max_ ts t #[.float .f64 a, .float .f64 b]).run P w = .ok (.float .f64 (mx a b)) w := by
  unfold O at h
  simp only [Builtin.max_, List.foldlM, Builtin.max2, mx, O]
  cases e : FloatKind.f64.format.order a b with
  | none => rw [e] at h; cases h
  | some o => cases o <;> simp
theorem run_min (ts : Array TypeId) (t : TypeId) (a b : Nat) (h : (O a b).isSome = true) (P : Program) (w : World) : (Builtin.min_ ts t #[.float .f64 a, .float .f64 b]).run P w = .ok (.float .f64 (mn a b)) w := by
  unfold O at h
  simp only [Builtin.min_, List.foldlM, Builtin.min2, mn, O]
  cases e : FloatKind.f64.format.order a b with
  | none => rw [e] at h; cases h
  | some o => cases o <;> simp

/-- e is out of the joint extent of [a, c) and [b, d): below it, or not below its end. -/
def Lo (a b e : Nat) : Prop := O e (mx a b) = some .lt
def Up (c d e : Nat) : Prop := O e (mn c d) = some .gt ∨ O e (mn c d) = some .eq

theorem cmp_lt {a b : Int} : (some (compare a b) = some Ordering.lt) ↔ a < b := by simp [Int.compare_eq_lt]
theorem cmp_eq {a b : Int} : (some (compare a b) = some Ordering.eq) ↔ a = b := by simp
theorem cmp_gt {a b : Int} : (some (compare a b) = some Ordering.gt) ↔ b < a := by simp [Int.compare_eq_gt]

theorem mx_or {a b e : Nat} (ha : O a a = some .eq) (hb : O b b = some .eq) (he : O e e = some .eq) : Lo a b e ↔ ¬ ((O a e = some .lt ∨ O a e = some .eq) ∧ (O b e = some .lt ∨ O b e = some .eq)) := by
  obtain ⟨x, y, z, h1, h2, h3, h4, h5, h6⟩ := keys3 ha hb he
  unfold Lo mx
  rw [h1, h3, h5]
  rcases Int.lt_trichotomy x y with c | c | c
  · rw [show compare x y = .lt from Int.compare_eq_lt.2 c]
    simp only [h6, cmp_lt, cmp_eq]
    omega
  · rw [show compare x y = .eq by simp [c]]
    simp only [cmp_lt, cmp_eq]
    split
    · rw [h6, cmp_lt]; omega
    · rw [h4, cmp_lt]; omega
  · rw [show compare x y = .gt from Int.compare_eq_gt.2 c]
    simp only [h4, cmp_lt, cmp_eq]
    omega
theorem mn_or {a b e : Nat} (ha : O a a = some .eq) (hb : O b b = some .eq) (he : O e e = some .eq) : Up a b e ↔ ¬ (O e a = some .lt ∧ O e b = some .lt) := by
  obtain ⟨x, y, z, h1, h2, h3, h4, h5, h6⟩ := keys3 ha hb he
  unfold Up mn
  rw [h1, h4, h6]
  rcases Int.lt_trichotomy x y with c | c | c
  · rw [show compare x y = .lt from Int.compare_eq_lt.2 c]
    simp only [h4, cmp_lt, cmp_eq, cmp_gt]
    omega
  · rw [show compare x y = .eq by simp [c]]
    simp only [cmp_lt]
    split
    · rw [h4, cmp_gt, cmp_eq]; omega
    · rw [h6, cmp_gt, cmp_eq]; omega
  · rw [show compare x y = .gt from Int.compare_eq_gt.2 c]
    simp only [h6, cmp_lt, cmp_eq, cmp_gt]
    omega

/-- In both extents: neither below nor above. -/
theorem in_both {a b c d e : Nat} (ha : O a a = some .eq) (hb : O b b = some .eq) (hc : O c c = some .eq) (hd : O d d = some .eq) (he : O e e = some .eq) : (In a c e ∧ In b d e) ↔ (¬ Lo a b e ∧ ¬ Up c d e) := by
  rw [mx_or ha hb he, mn_or hc hd he]
  unfold In
  constructor
  · rintro ⟨⟨h1, h2⟩, h3, h4⟩
    exact ⟨fun h => h ⟨h1, h3⟩, fun h => h ⟨h2, h4⟩⟩
  · rintro ⟨h1, h2⟩
    have h1 := Classical.not_not.1 h1
    have h2 := Classical.not_not.1 h2
    exact ⟨⟨h1.1, h2.1⟩, h1.2, h2.2⟩

theorem some_of {a b : Nat} (ha : O a a = some .eq) (hb : O b b = some .eq) : (O a b).isSome = true := by
  obtain ⟨x, y, z, h1, _⟩ := keys3 ha hb hb
  rw [h1]
  rfl

/-- The world inside parentOf: the two zones' boxes, the position's box, its two rows. -/
structure PIn (w wr : World) (n : Nat) (z1 z2 z3 z4 : Value) (bA bB : Nat) (gA gB : Nat → Value) : Prop where
  below : Below w.heap.size w wr
  boxZ : wr.heap[w.heap.size]? = some (.cells #[z1, z2] 26 (0, 0))
  boxB : wr.heap[w.heap.size + 1]? = some (.cells #[z3, z4] 26 (0, 0))
  boxP : wr.heap[w.heap.size + 1 + 1]? = some (.cells #[.slice (some ⟨bA, 0, none⟩) n n, .slice (some ⟨bB, 0, none⟩) n n] 49 (0, 0))
  hA : w.heap.size + 1 + 1 < bA
  hB : w.heap.size + 1 + 1 < bB
  hAB : bA ≠ bB
  rowA : wr.rowIs bA 30 n gA
  rowB : wr.rowIs bB 4 n gB
  bools : ∀ i, i < n → ∃ b, gB i = .bool b

namespace PIn
variable {w wr : World} {n : Nat} {z1 z2 z3 z4 : Value} {bA bB : Nat} {gA gB : Nat → Value}
theorem drewN (h : PIn w wr n z1 z2 z3 z4 bA bB gA gB) (q : Nat) : PIn w (wr.drewN q) n z1 z2 z3 z4 bA bB gA gB :=
  ⟨below_drewN h.below q, h.boxZ, h.boxB, h.boxP, h.hA, h.hB, h.hAB, h.rowA, h.rowB, h.bools⟩
theorem drew (h : PIn w wr n z1 z2 z3 z4 bA bB gA gB) : PIn w wr.drew n z1 z2 z3 z4 bA bB gA gB :=
  ⟨h.below.drew, h.boxZ, h.boxB, h.boxP, h.hA, h.hB, h.hAB, h.rowA, h.rowB, h.bools⟩
theorem other (wr : World) (b k j : Nat) (v : Value) (h : j ≠ b) : (wr.setCell ⟨b, k, none⟩ v).heap[j]? = wr.heap[j]? := Below.heap_setCell wr ⟨b, k, none⟩ v j h
theorem setA (h : PIn w wr n z1 z2 z3 z4 bA bB gA gB) (k : Nat) (v : Value) : PIn w (wr.setCell ⟨bA, k, none⟩ v) n z1 z2 z3 z4 bA bB (fun j => if j = k then v else gA j) gB := by
  have := h.hA
  exact ⟨h.below.setCell (p := ⟨bA, k, none⟩) (by show w.heap.size ≤ bA; omega) _, by rw [other _ _ _ _ _ (by omega)]; exact h.boxZ, by rw [other _ _ _ _ _ (by omega)]; exact h.boxB, by rw [other _ _ _ _ _ (by omega)]; exact h.boxP,
    h.hA, h.hB, h.hAB, h.rowA.set k v, h.rowB.setOther (a := ⟨bA, k, none⟩) (by show bB ≠ bA; exact h.hAB.symm) v, h.bools⟩
theorem setB (h : PIn w wr n z1 z2 z3 z4 bA bB gA gB) (k : Nat) (b : Bool) : PIn w (wr.setCell ⟨bB, k, none⟩ (.bool b)) n z1 z2 z3 z4 bA bB gA (fun j => if j = k then .bool b else gB j) := by
  have := h.hB
  refine ⟨h.below.setCell (p := ⟨bB, k, none⟩) (by show w.heap.size ≤ bB; omega) _, by rw [other _ _ _ _ _ (by omega)]; exact h.boxZ, by rw [other _ _ _ _ _ (by omega)]; exact h.boxB, by rw [other _ _ _ _ _ (by omega)]; exact h.boxP,
    h.hA, h.hB, h.hAB, h.rowA.setOther (a := ⟨bB, k, none⟩) (by show bA ≠ bB; exact h.hAB) _, h.rowB.set k _, fun i hi => ?_⟩
  by_cases e : i = k
  · exact ⟨b, by simp [e]⟩
  · obtain ⟨b', hb⟩ := h.bools i hi
    exact ⟨b', by simp [e, hb]⟩
end PIn

theorem five0 (w : World) (a b c d e : Obj) : (((((w.alloc a).alloc b).alloc c).alloc d).alloc e).heap[w.heap.size]? = some a := by
  rw [Lib.alloc_old _ _ _ (by simp; omega), Lib.alloc_old _ _ _ (by simp; omega), Lib.alloc_old _ _ _ (by simp; omega), Lib.alloc_old _ _ _ (by simp), heap_alloc_new]
theorem five1 (w : World) (a b c d e : Obj) : (((((w.alloc a).alloc b).alloc c).alloc d).alloc e).heap[w.heap.size + 1]? = some b := by
  rw [Lib.alloc_old _ _ _ (by simp), Lib.alloc_old _ _ _ (by simp), Lib.alloc_old _ _ _ (by simp), ← World.size_alloc w a, heap_alloc_new]
theorem five2 (w : World) (a b c d e : Obj) : (((((w.alloc a).alloc b).alloc c).alloc d).alloc e).heap[w.heap.size + 1 + 1]? = some c := by
  rw [Lib.alloc_old _ _ _ (by simp), Lib.alloc_old _ _ _ (by simp), ← World.size_alloc w a, ← World.size_alloc (w.alloc a) b, heap_alloc_new]
theorem pstartA (w : World) (n : Nat) (z1 z2 z3 z4 : Value) :
    PIn w (((((w.alloc (.cells #[z1, z2] 26)).alloc (.cells #[z3, z4] 26)).alloc (.cells #[.slice (some ⟨w.heap.size + 1 + 1 + 1, 0, none⟩) n n, .slice (some ⟨w.heap.size + 1 + 1 + 1 + 1, 0, none⟩) n n] 49)).alloc (.cells (madeCells #[.float .f64 0] n) 30)).alloc (.cells (madeCells #[.bool false] n) 4)).drew
      n z1 z2 z3 z4 (w.heap.size + 1 + 1 + 1) (w.heap.size + 1 + 1 + 1 + 1) (fun _ => .float .f64 0) (fun _ => .bool false) := by
  have rA := World.rowIs_made (((w.alloc (.cells #[z1, z2] 26)).alloc (.cells #[z3, z4] 26)).alloc (.cells #[.slice (some ⟨w.heap.size + 1 + 1 + 1, 0, none⟩) n n, .slice (some ⟨w.heap.size + 1 + 1 + 1 + 1, 0, none⟩) n n] 49)) (.float .f64 0) n 30
  have rB := World.rowIs_made ((((w.alloc (.cells #[z1, z2] 26)).alloc (.cells #[z3, z4] 26)).alloc (.cells #[.slice (some ⟨w.heap.size + 1 + 1 + 1, 0, none⟩) n n, .slice (some ⟨w.heap.size + 1 + 1 + 1 + 1, 0, none⟩) n n] 49)).alloc (.cells (madeCells #[.float .f64 0] n) 30)) (.bool false) n 4
  simp only [World.size_alloc] at rA rB
  refine ⟨?_, ?_, ?_, ?_, by omega, by omega, by omega, (rA.alloc _).drew, rB.drew, fun i _ => ⟨false, rfl⟩⟩
  · exact ((((((Below.refl _ w).alloc (Nat.le_refl _) _).alloc (by simp) _).alloc (by simp; omega) _).alloc (by simp; omega) _).alloc (by simp; omega) _).drew
  · exact five0 w _ _ _ _ _
  · exact five1 w _ _ _ _ _
  · exact five2 w _ _ _ _ _
theorem pstartB (w : World) (n : Nat) (z1 z2 z3 z4 : Value) :
    PIn w (((((w.alloc (.cells #[z1, z2] 26)).alloc (.cells #[z3, z4] 26)).alloc (.cells #[.slice (some ⟨w.heap.size + 1 + 1 + 1 + 1, 0, none⟩) n n, .slice (some ⟨w.heap.size + 1 + 1 + 1, 0, none⟩) n n] 49)).alloc (.cells (madeCells #[.bool false] n) 4)).alloc (.cells (madeCells #[.float .f64 0] n) 30)).drew
      n z1 z2 z3 z4 (w.heap.size + 1 + 1 + 1 + 1) (w.heap.size + 1 + 1 + 1) (fun _ => .float .f64 0) (fun _ => .bool false) := by
  have rB := World.rowIs_made (((w.alloc (.cells #[z1, z2] 26)).alloc (.cells #[z3, z4] 26)).alloc (.cells #[.slice (some ⟨w.heap.size + 1 + 1 + 1 + 1, 0, none⟩) n n, .slice (some ⟨w.heap.size + 1 + 1 + 1, 0, none⟩) n n] 49)) (.bool false) n 4
  have rA := World.rowIs_made ((((w.alloc (.cells #[z1, z2] 26)).alloc (.cells #[z3, z4] 26)).alloc (.cells #[.slice (some ⟨w.heap.size + 1 + 1 + 1 + 1, 0, none⟩) n n, .slice (some ⟨w.heap.size + 1 + 1 + 1, 0, none⟩) n n] 49)).alloc (.cells (madeCells #[.bool false] n) 4)) (.float .f64 0) n 30
  simp only [World.size_alloc] at rA rB
  refine ⟨?_, ?_, ?_, ?_, by omega, by omega, by omega, rA.drew, (rB.alloc _).drew, fun i _ => ⟨false, rfl⟩⟩
  · exact ((((((Below.refl _ w).alloc (Nat.le_refl _) _).alloc (by simp) _).alloc (by simp; omega) _).alloc (by simp; omega) _).alloc (by simp; omega) _).drew
  · exact five0 w _ _ _ _ _
  · exact five1 w _ _ _ _ _
  · exact five2 w _ _ _ _ _

set_option maxHeartbeats 2000000 in
theorem parent_pos (x1 x2 y1 y2 z : Addr) (n c1 c2 c3 c4 c5 : Nat) (f1 f2 g1 g2 p : Nat → Nat) (w : World) (hn : n ≤ 1048576)
    (h1 : FRow w x1 n f1) (h2 : FRow w x2 n f2) (h3 : FRow w y1 n g1) (h4 : FRow w y2 n g2) (h5 : FRow w z n p) (n1 : NN f1 n) (n2 : NN f2 n) (n3 : NN g1 n) (n4 : NN g2 n) (n5 : NN p n) :
    Calls Try.prog 33 #[.agg #[.slice (some x1) n c1, .slice (some x2) n c2], .agg #[.slice (some y1) n c3, .slice (some y2) n c4], .slice (some z) n c5] w fun e w' =>
      (∃ a b m ca cb ch, e = .returned (.tuple #[.agg #[.slice a m ca, .slice b m cb], .bool ch]) ∧ ((ch = false ∧ m = 0 ∧ (Hold f1 f2 p n ∧ Hold g1 g2 p n)) ∨ (ch = true ∧ m = n ∧ ¬ (Hold f1 f2 p n ∧ Hold g1 g2 p n)))) ∧ Below w.heap.size w w' := by
  have hmkA := fun (w : World) => run_make_row' (P := Try.prog) 22 30 (.float .f64 0) 8 Try.underlying22 Try.info30 rfl .i64 .i64 n (by omega) (by omega) w
  have hmkB := fun (w : World) => run_make_row' (P := Try.prog) 41 4 (.bool false) 1 Try.underlying41 Try.info4 rfl .i64 .i64 n (by omega) (by omega) w
  have H1 : Hid (FRow w x1 n f1 ∧ FRow w x2 n f2 ∧ FRow w y1 n g1 ∧ FRow w y2 n g2 ∧ FRow w z n p) := ⟨h1, h2, h3, h4, h5⟩
  have H2 : Hid (NN f1 n ∧ NN f2 n ∧ NN g1 n ∧ NN g2 n ∧ NN p n) := ⟨n1, n2, n3, n4, n5⟩
  clear h1 h2 h3 h4 h5 n1 n2 n3 n4 n5
  go_enter Try.func33, Try.ntmps33
  go_wp2
  go_region
  all_goals clear hmkA hmkB
  all_goals
    go_wp2
    go_loopw [8, 22] (fun st i wr => ∃ (k : Nat) (bA bB : Nat) (gA gB : Nat → Value), k ≤ n ∧ i = .int .i64 k ∧ PIn w wr n (.slice (some x1) n c1) (.slice (some x2) n c2) (.slice (some y1) n c3) (.slice (some y2) n c4) bA bB gA gB ∧ ((st = .int .i64 (-1) ∧ Hold f1 f2 p k ∧ Hold g1 g2 p k) ∨ ∃ j : Nat, st = .int .i64 j ∧ j < n ∧ ¬ (Hold f1 f2 p n ∧ Hold g1 g2 p n))) (fun _ i _ => n - (intOf i).toNat)
    case atStart =>
      first
        | exact ⟨0, _, _, _, _, Nat.zero_le _, rfl, pstartA w n _ _ _ _, .inl ⟨rfl, fun i hi => absurd hi (Nat.not_lt_zero _), fun i hi => absurd hi (Nat.not_lt_zero _)⟩⟩
        | exact ⟨0, _, _, _, _, Nat.zero_le _, rfl, pstartB w n _ _ _ _, .inl ⟨rfl, fun i hi => absurd hi (Nat.not_lt_zero _), fun i hi => absurd hi (Nat.not_lt_zero _)⟩⟩
    case round =>
      obtain ⟨k, bA, bB, gA, gB, hk, rfl, hP, hst⟩ := hrel
      by_cases hlt : k < n
      · have hlt' : (k : Int) < (n : Int) := by omega
        obtain ⟨r1, r2, r3, r4, r5⟩ := H1.out
        obtain ⟨m1, m2, m3, m4, m5⟩ := H2.out
        have q1 := (r1.below hP.below) k hlt
        have q2 := (r2.below hP.below) k hlt
        have q3 := (r3.below hP.below) k hlt
        have q4 := (r4.below hP.below) k hlt
        have q5 := (r5.below hP.below) k hlt
        have a0 : wr.cell? ⟨w.heap.size, 0, none⟩ = some (.slice (some x1) n c1) := by rw [Lib.cell_of_heap hP.boxZ]; rfl
        have a1 : wr.cell? ⟨w.heap.size, 1, none⟩ = some (.slice (some x2) n c2) := by rw [Lib.cell_of_heap hP.boxZ]; rfl
        have a2 : wr.cell? ⟨w.heap.size + 1, 0, none⟩ = some (.slice (some y1) n c3) := by rw [Lib.cell_of_heap hP.boxB]; rfl
        have a3 : wr.cell? ⟨w.heap.size + 1, 1, none⟩ = some (.slice (some y2) n c4) := by rw [Lib.cell_of_heap hP.boxB]; rfl
        have a4 : wr.cell? ⟨w.heap.size + 1 + 1, 0, none⟩ = some (.slice (some ⟨bA, 0, none⟩) n n) := by rw [Lib.cell_of_heap hP.boxP]; rfl
        have a5 : wr.cell? ⟨w.heap.size + 1 + 1, 1, none⟩ = some (.slice (some ⟨bB, 0, none⟩) n n) := by rw [Lib.cell_of_heap hP.boxP]; rfl
        have hmax := fun (ts : Array TypeId) (t : TypeId) (W : World) => run_max ts t (f1 k) (g1 k) (some_of (m1 k hlt) (m3 k hlt)) Try.prog W
        have hmin := fun (ts : Array TypeId) (t : TypeId) (W : World) => run_min ts t (f2 k) (g2 k) (some_of (m2 k hlt) (m4 k hlt)) Try.prog W
        have hin := in_both (m1 k hlt) (m3 k hlt) (m2 k hlt) (m4 k hlt) (m5 k hlt)
        have HIN : Hid ((In (f1 k) (f2 k) (p k) ∧ In (g1 k) (g2 k) (p k)) ↔ (¬ Lo (f1 k) (g1 k) (p k) ∧ ¬ Up (f2 k) (g2 k) (p k))) := hin
        clear r1 r2 r3 r4 r5 m1 m2 m3 m4 m5 hin
        have t1 := hP.rowA.frozen k
        have t2 := hP.rowB.frozen k
        obtain ⟨v1, t3⟩ : ∃ v, wr.cell? ⟨bA, k, none⟩ = some v := ⟨_, hP.rowA.cell hlt⟩
        obtain ⟨v2, t4⟩ : ∃ v, wr.cell? ⟨bB, k, none⟩ = some v := ⟨_, hP.rowB.cell hlt⟩
        have hAB := hP.hAB
        have dA : bA ≠ w.heap.size + 1 + 1 := by have := hP.hA; omega
        have dB : bB ≠ w.heap.size + 1 + 1 := by have := hP.hB; omega
        have dA' : w.heap.size + 1 + 1 ≠ bA := dA.symm
        have dB' : w.heap.size + 1 + 1 ≠ bB := dB.symm
        have hBA : bB ≠ bA := hAB.symm
        by_cases hLo : Lo (f1 k) (g1 k) (p k)
        · have bl : (FloatKind.f64.format.order (p k) (mx (f1 k) (g1 k)) == some Ordering.lt) = true := by simpa [Lo, O] using hLo
          have HNH : Hid (¬ (Hold f1 f2 p n ∧ Hold g1 g2 p n)) := fun h => (HIN.out.1 ⟨h.1 k hlt, h.2 k hlt⟩).1 hLo
          clear hLo HIN
          rcases hst with ⟨rfl, hh⟩ | ⟨j, rfl, hj, hh⟩
          · go_wp2
            go_quiet (fail)
            go_wp2
            go_roundw
            case rel => exact ⟨k + 1, bA, bB, _, gB, by omega, by go_num, ((hP.drewN _).setA k _), .inr ⟨k, by go_num, hlt, HNH.out⟩⟩
            case measure => simp [intOf]; omega
          · go_wp2
            go_quiet (fail)
            go_wp2
            go_roundw
            case rel => exact ⟨k + 1, bA, bB, _, gB, by omega, by go_num, ((hP.drewN _).setA k _), .inr ⟨j, by go_num, hj, hh⟩⟩
            case measure => simp [intOf]; omega
        · have bl : (FloatKind.f64.format.order (p k) (mx (f1 k) (g1 k)) == some Ordering.lt) = false := by simpa [Lo, O] using hLo
          by_cases hUp : Up (f2 k) (g2 k) (p k)
          · have bu : (FloatKind.f64.format.order (p k) (mn (f2 k) (g2 k)) == some Ordering.gt || FloatKind.f64.format.order (p k) (mn (f2 k) (g2 k)) == some Ordering.eq) = true := by simpa [Up, O] using hUp
            have HNH : Hid (¬ (Hold f1 f2 p n ∧ Hold g1 g2 p n)) := fun h => (HIN.out.1 ⟨h.1 k hlt, h.2 k hlt⟩).2 hUp
            clear hLo hUp HIN
            rcases hst with ⟨rfl, hh⟩ | ⟨j, rfl, hj, hh⟩
            · go_wp2
              go_quiet (fail)
              go_wp2
              go_region
              all_goals
                go_wp2
                go_roundw
                case rel => first | exact ⟨k + 1, bA, bB, _, _, by omega, by go_num, (((hP.drewN _).setA k _).setB k _), .inr ⟨k, by go_num, hlt, HNH.out⟩⟩ | exact ⟨k + 1, bA, bB, _, _, by omega, by go_num, (((hP.drewN _).setB k _).setA k _), .inr ⟨k, by go_num, hlt, HNH.out⟩⟩
                case measure => simp [intOf]; omega
            · go_wp2
              go_quiet (fail)
              go_wp2
              go_region
              all_goals
                go_wp2
                go_roundw
                case rel => first | exact ⟨k + 1, bA, bB, _, _, by omega, by go_num, (((hP.drewN _).setA k _).setB k _), .inr ⟨j, rfl, hj, hh⟩⟩ | exact ⟨k + 1, bA, bB, _, _, by omega, by go_num, (((hP.drewN _).setB k _).setA k _), .inr ⟨j, rfl, hj, hh⟩⟩
                case measure => simp [intOf]; omega
          · have bu : (FloatKind.f64.format.order (p k) (mn (f2 k) (g2 k)) == some Ordering.gt || FloatKind.f64.format.order (p k) (mn (f2 k) (g2 k)) == some Ordering.eq) = false := by simpa [Up, O] using hUp
            have HI : Hid (In (f1 k) (f2 k) (p k) ∧ In (g1 k) (g2 k) (p k)) := HIN.out.2 ⟨hLo, hUp⟩
            clear hLo hUp HIN
            rcases hst with ⟨rfl, hh1, hh2⟩ | ⟨j, rfl, hj, hh⟩
            · go_wp2
              go_quiet (fail)
              go_wp2
              go_roundw
              case rel => exact ⟨k + 1, bA, bB, _, gB, by omega, by go_num, ((hP.drewN _).setA k _), .inl ⟨rfl, hold_succ hh1 HI.out.1, hold_succ hh2 HI.out.2⟩⟩
              case measure => simp [intOf]; omega
            · go_wp2
              go_quiet (fail)
              go_wp2
              go_roundw
              case rel => exact ⟨k + 1, bA, bB, _, gB, by omega, by go_num, ((hP.drewN _).setA k _), .inr ⟨j, rfl, hj, hh⟩⟩
              case measure => simp [intOf]; omega
      · have hkn : k = n := by omega
        subst hkn
        have a4 : wr.cell? ⟨w.heap.size + 1 + 1, 0, none⟩ = some (.slice (some ⟨bA, 0, none⟩) k k) := by rw [Lib.cell_of_heap hP.boxP]; rfl
        have a5 : wr.cell? ⟨w.heap.size + 1 + 1, 1, none⟩ = some (.slice (some ⟨bB, 0, none⟩) k k) := by rw [Lib.cell_of_heap hP.boxP]; rfl
        have a6 : wr.frozen? ⟨w.heap.size + 1 + 1, 0, none⟩ = false := Lib.frozen_of_heap hP.boxP 0
        have a7 : wr.frozen? ⟨w.heap.size + 1 + 1, 1, none⟩ = false := Lib.frozen_of_heap hP.boxP 1
        rcases hst with ⟨rfl, hh1, hh2⟩ | ⟨j, rfl, hj, hh⟩
        · go_wp2
          refine bodyPost_ret (v := .tuple #[.agg #[.slice none 0 0, .slice none 0 0], .bool false]) (by simp [results, Try.results33, go_sem, a4, a5]) rfl ⟨⟨_, _, _, _, _, _, rfl, .inl ⟨rfl, rfl, hh1, hh2⟩⟩, ?_⟩
          exact (hP.below.setCell (p := ⟨w.heap.size + 1 + 1, 0, none⟩) (by show w.heap.size ≤ w.heap.size + 1 + 1; omega) _).setCell (p := ⟨w.heap.size + 1 + 1, 1, none⟩) (by show w.heap.size ≤ w.heap.size + 1 + 1; omega) _
        · have t2 := hP.rowB.frozen j
          obtain ⟨b0, hb0⟩ := hP.bools j hj
          have t4 : wr.cell? ⟨bB, j, none⟩ = some (.bool b0) := by rw [← hb0]; exact hP.rowB.cell hj
          have dB : bB ≠ w.heap.size + 1 + 1 := by have := hP.hB; omega
          have dB' : w.heap.size + 1 + 1 ≠ bB := dB.symm
          have hj' : (j : Int) < (k : Int) := by omega
          clear hb0
          go_wp2
          go_region
          all_goals
            go_wp2
            refine bodyPost_ret (v := .tuple #[.agg #[.slice (some ⟨bA, 0, none⟩) k k, .slice (some ⟨bB, 0, none⟩) k k], .bool true]) (by simp [results, Try.results33, go_sem, a4, a5]) rfl ⟨⟨_, _, _, _, _, _, rfl, .inr ⟨rfl, rfl, hh⟩⟩, ?_⟩
            exact (((hP.below.setCell (p := ⟨bB, j, none⟩) (by show w.heap.size ≤ bB; have := hP.hB; omega) _).setCell (p := ⟨w.heap.size + 1 + 1, 0, none⟩) (by show w.heap.size ≤ w.heap.size + 1 + 1; omega) _).setCell (p := ⟨w.heap.size + 1 + 1, 1, none⟩) (by show w.heap.size ≤ w.heap.size + 1 + 1; omega) _).drew

end Go.Proofs.Qxb6600053a

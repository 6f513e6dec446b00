/-
  The walk of the law: the two halves of a zone join to the zone.
-/
import Derived.Test.Qxb6600053aUnionZ
import Derived.Test.Qxb6600053aUnion
set_option linter.unusedVariables false
namespace Go.Proofs.Qxb6600053a
open Go.RowKit Go.Proofs.Qxb6600053a.Ord
attribute [local go_sem] run_store_float

/-- The halves of a zone: joined in the one order. -/
theorem join_lh (bl bh cl ch : Nat) (n k c q1 q2 q3 q4 : Nat) (lo hi : Nat → Nat) (w : World) (hn : n ≤ 1048576) (hk : k < n)
    (h1 : FRow w ⟨bl, 0, none⟩ n lo) (h2 : FRow w ⟨ch, 0, none⟩ n (fun i => if i = k then c else hi i)) (h3 : FRow w ⟨cl, 0, none⟩ n (fun i => if i = k then c else lo i)) (h4 : FRow w ⟨bh, 0, none⟩ n hi)
    (hwf : WF lo hi n) (l1 : O (lo k) c = some .lt) (l2 : O c (hi k) = some .lt) :
    Calls Try.prog 13 #[.agg #[.slice (some ⟨bl, 0, none⟩) n q1, .slice (some ⟨ch, 0, none⟩) n q2], .agg #[.slice (some ⟨cl, 0, none⟩) n q3, .slice (some ⟨bh, 0, none⟩) n q4]] w fun e w' =>
      (∃ b1 b2 k1 k2, e = .returned (.tuple #[.agg #[.slice (some ⟨b1, 0, none⟩) n k1, .slice (some ⟨b2, 0, none⟩) n k2], .bool true]) ∧ FRow w' ⟨b1, 0, none⟩ n lo ∧ FRow w' ⟨b2, 0, none⟩ n hi) ∧ Below w.heap.size w w' := by
  refine zzunion_of (by omega) fun W hW => union_pos _ _ _ _ n k _ _ _ _ lo (fun i => if i = k then c else hi i) (fun i => if i = k then c else lo i) hi lo hi W hn hk (h1.below hW) (h2.below hW) (h3.below hW) (h4.below hW) ?_ ?_ ?_ ?_ ?_ ?_ ?_
  · intro i hi' hik
    simp only [if_neg hik]
    exact ⟨self_left (hwf i hi'), self_right (hwf i hi')⟩
  · simp [l1]
  · simp [self_right l1]
  · simp [l1]
  · simp [l2]
  · intro i hi'
    by_cases e : i = k
    · subst e; simp [mn, l1]
    · simp [e]
  · intro i hi'
    by_cases e : i = k
    · subst e; simp [mx, l2]
    · simp [e]
theorem join_hl (bl bh cl ch : Nat) (n k c q1 q2 q3 q4 : Nat) (lo hi : Nat → Nat) (w : World) (hn : n ≤ 1048576) (hk : k < n)
    (h1 : FRow w ⟨bl, 0, none⟩ n lo) (h2 : FRow w ⟨ch, 0, none⟩ n (fun i => if i = k then c else hi i)) (h3 : FRow w ⟨cl, 0, none⟩ n (fun i => if i = k then c else lo i)) (h4 : FRow w ⟨bh, 0, none⟩ n hi)
    (hwf : WF lo hi n) (l1 : O (lo k) c = some .lt) (l2 : O c (hi k) = some .lt) :
    Calls Try.prog 13 #[.agg #[.slice (some ⟨cl, 0, none⟩) n q1, .slice (some ⟨bh, 0, none⟩) n q2], .agg #[.slice (some ⟨bl, 0, none⟩) n q3, .slice (some ⟨ch, 0, none⟩) n q4]] w fun e w' =>
      (∃ b1 b2 k1 k2, e = .returned (.tuple #[.agg #[.slice (some ⟨b1, 0, none⟩) n k1, .slice (some ⟨b2, 0, none⟩) n k2], .bool true]) ∧ FRow w' ⟨b1, 0, none⟩ n lo ∧ FRow w' ⟨b2, 0, none⟩ n hi) ∧ Below w.heap.size w w' := by
  have g1 := swap_lt l1
  have g2 := swap_lt l2
  have g3 := swap_lt (hwf k hk)
  refine zzunion_of (by omega) fun W hW => union_pos _ _ _ _ n k _ _ _ _ (fun i => if i = k then c else lo i) hi lo (fun i => if i = k then c else hi i) lo hi W hn hk (h3.below hW) (h4.below hW) (h1.below hW) (h2.below hW) ?_ ?_ ?_ ?_ ?_ ?_ ?_
  · intro i hi' hik
    simp only [if_neg hik]
    exact ⟨self_left (hwf i hi'), self_right (hwf i hi')⟩
  · simp [g1]
  · exact .inr ⟨by simp [g3], by simp [self_right l1]⟩
  · simp [g1]
  · simp [g2]
  · intro i hi'
    by_cases e : i = k
    · subst e; simp [mn, g1]
    · simp [e]
  · intro i hi'
    by_cases e : i = k
    · subst e; simp [mx, g2]
    · simp [e]

theorem wellFormed_yes (x y : Addr) (n c1 c2 : Nat) (f g : Nat → Nat) (w : World) (hn : n ≤ 1048576) (h1 : FRow w x n f) (h2 : FRow w y n g) (h : WF f g n) :
    Calls Try.prog 16 #[.slice (some x) n c1, .slice (some y) n c2] w fun e w' => e = .returned (.bool true) ∧ Same w w' :=
  (wellFormed_pos x y n c1 c2 f g w hn h1 h2).mono fun e w' hh => by
    rcases hh with ⟨⟨_, he⟩ | ⟨hx, _⟩, hs⟩
    · exact ⟨he, hs⟩
    · exact absurd h hx
theorem wellFormed_no (x y : Addr) (n c1 c2 : Nat) (f g : Nat → Nat) (w : World) (hn : n ≤ 1048576) (h1 : FRow w x n f) (h2 : FRow w y n g) (h : ¬ WF f g n) :
    Calls Try.prog 16 #[.slice (some x) n c1, .slice (some y) n c2] w fun e w' => e = .returned (.bool false) ∧ Same w w' :=
  (wellFormed_pos x y n c1 c2 f g w hn h1 h2).mono fun e w' hh => by
    rcases hh with ⟨⟨hx, _⟩ | ⟨_, he⟩, hs⟩
    · exact absurd hx h
    · exact ⟨he, hs⟩

set_option maxHeartbeats 2000000 in
theorem main4 (x0 x1 : Addr) (n c0 c1 k c : Nat) (lo hi : Nat → Nat) (w : World) (h8 : 16 * n ≤ 1048576) (hk : k < n) (r0 : FRow w x0 n lo) (r1 : FRow w x1 n hi)
    (hwf : WF lo hi n) (l1 : O (lo k) c = some .lt) (l2 : O c (hi k) = some .lt) :
    Calls Try.prog 4 #[.slice (some x0) n c0, .slice (some x1) n c1, .int .i64 k, .float .f64 c] w fun e w' => e = .returned (.bool true) ∧ Below w.heap.size w w' := by
  have h : n + n ≤ 1048576 := by omega
  have hn : n ≤ 1048576 := by omega
  have h1n : 1 ≤ n := by omega
  have d : decide ((1048576 : Int) < (n : Int)) = false := decide_eq_false (by omega)
  have e0 : ((n : Int) != (n : Int)) = false := by simp
  have dk0 : decide ((k : Int) < 0) = false := decide_eq_false (by omega)
  have dk1 : decide ((n : Int) ≤ (k : Int)) = false := decide_eq_false (by omega)
  have hk' : (k : Int) < (n : Int) := by omega
  have b1 : (FloatKind.f64.format.order (lo k) c == some Ordering.lt) = true := by simpa [O] using l1
  have b2 : (FloatKind.f64.format.order c (hi k) == some Ordering.lt) = true := by simpa [O] using l2
  have HL : Hid (WF lo hi n ∧ O (lo k) c = some .lt ∧ O c (hi k) = some .lt) := ⟨hwf, l1, l2⟩
  have HNL : Hid (NN lo n ∧ NN hi n) := ⟨fun i hi' => self_left (hwf i hi'), fun i hi' => self_right (hwf i hi')⟩
  have HR : Hid (FRow w x0 n lo ∧ FRow w x1 n hi) := ⟨r0, r1⟩
  clear hwf l1 l2 r0 r1
  go_enter Try.func4, Try.ntmps4
  go_wp2_with (go_at_call 15; refine (bytes15_yes _ _ _ _ _ _ _ _ _ h).mono ?_; rintro e w' ⟨rfl, rfl⟩)
  refine (wellFormed_yes x0 x1 n c0 c1 lo hi _ hn HR.out.1 HR.out.2 HL.out.1).mono ?_
  rintro e W1 ⟨rfl, s1⟩
  have q0 := (s1.row HR.out.1) k hk
  have q1 := (s1.row HR.out.2) k hk
  have R1 : Hid (FRow W1 x0 n lo ∧ FRow W1 x1 n hi) := ⟨s1.row HR.out.1, s1.row HR.out.2⟩
  have B1 : Hid (Below w.heap.size w W1) := s1.1
  clear s1 HR
  go_wp2_with fail
  refine (clone_own x0 n c0 lo _ hn R1.out.1).mono ?_
  rintro e W2 ⟨p0, rfl, g0, lt0, hb, o0⟩
  clear q0 q1
  have R2 : Hid (FRow W2 x1 n hi) := R1.out.2.below hb
  have B2 : Hid (Below w.heap.size w W2) := B1.out.trans (hb.mono B1.out.size)
  have O2 : Hid (Own W2 p0 n lo) := o0
  have z0 : w.heap.size ≤ p0 := Nat.le_trans B1.out.size g0
  clear hb o0 g0 R1 B1
  go_wp2_with fail
  refine (clone_own x1 n c1 hi _ hn R2.out).mono ?_
  rintro e W3 ⟨p1, rfl, g1, lt1, hb, o1⟩
  have B3 : Hid (Below w.heap.size w W3) := B2.out.trans (hb.mono B2.out.size)
  have O3 : Hid (Own W3 p0 n lo ∧ Own W3 p1 n hi) := ⟨O2.out.below hb lt0, o1⟩
  have z1 : w.heap.size ≤ p1 := Nat.le_trans B2.out.size g1
  have ne01 : p0 ≠ p1 := by omega
  have lt0' : p0 < W3.heap.size := Nat.lt_of_lt_of_le lt0 hb.size
  clear hb o1 g1 R2 B2 O2 lt0
  go_wp2_with fail
  refine (clone_own ⟨p1, 0, none⟩ n n hi _ hn O3.out.2.row).mono ?_
  rintro e W4 ⟨p2, rfl, g2, lt2, hb, o2⟩
  have B4 : Hid (Below w.heap.size w W4) := B3.out.trans (hb.mono B3.out.size)
  have ne02 : p0 ≠ p2 := by omega
  have ne12 : p1 ≠ p2 := by omega
  have z2 : w.heap.size ≤ p2 := by have := B3.out.size; omega
  have O4 : Hid (Own W4 p0 n lo ∧ Own W4 p1 n hi ∧ Own W4 p2 n hi) := ⟨O3.out.1.below hb lt0', O3.out.2.below hb lt1, o2⟩
  have t1 := o2.frozen k
  have t2 := o2.cell hk
  clear hb o2 g2 B3 O3 lt0' lt1 lt2
  go_wp2_with fail
  have B5 : Hid (Below w.heap.size w (W4.setCell ⟨p2, k, none⟩ (.float .f64 c))) := B4.out.setCell (p := ⟨p2, k, none⟩) z2 _
  have O5 : Hid (Own (W4.setCell ⟨p2, k, none⟩ (.float .f64 c)) p0 n lo ∧ Own (W4.setCell ⟨p2, k, none⟩ (.float .f64 c)) p1 n hi ∧ Own (W4.setCell ⟨p2, k, none⟩ (.float .f64 c)) p2 n (fun i => if i = k then c else hi i)) := ⟨O4.out.1.other _ _ _ ne02, O4.out.2.1.other _ _ _ ne12, O4.out.2.2.set k c⟩
  clear t1 t2 B4 O4
  refine (clone_own ⟨p0, 0, none⟩ n n lo _ hn O5.out.1.row).mono ?_
  rintro e W6 ⟨p3, rfl, g3, lt3, hb, o3⟩
  have k0 := O5.out.1.lt
  have k1 := O5.out.2.1.lt
  have k2 := O5.out.2.2.lt
  have B6 : Hid (Below w.heap.size w W6) := B5.out.trans (hb.mono B5.out.size)
  have O6 : Hid (Own W6 p0 n lo ∧ Own W6 p1 n hi ∧ Own W6 p2 n (fun i => if i = k then c else hi i) ∧ Own W6 p3 n lo) := ⟨O5.out.1.below hb k0, O5.out.2.1.below hb k1, O5.out.2.2.below hb k2, o3⟩
  have ne03 : p0 ≠ p3 := by omega
  have ne13 : p1 ≠ p3 := by omega
  have ne23 : p2 ≠ p3 := by omega
  have z3 : w.heap.size ≤ p3 := by have := B5.out.size; omega
  have t1 := o3.frozen k
  have t2 := o3.cell hk
  clear hb o3 g3 k0 k1 k2 B5 O5 lt3
  have B7 : Hid (Below w.heap.size w (W6.setCell ⟨p3, k, none⟩ (.float .f64 c))) := B6.out.setCell (p := ⟨p3, k, none⟩) z3 _
  have O7 : Hid (Own (W6.setCell ⟨p3, k, none⟩ (.float .f64 c)) p0 n lo ∧ Own (W6.setCell ⟨p3, k, none⟩ (.float .f64 c)) p1 n hi ∧ Own (W6.setCell ⟨p3, k, none⟩ (.float .f64 c)) p2 n (fun i => if i = k then c else hi i) ∧ Own (W6.setCell ⟨p3, k, none⟩ (.float .f64 c)) p3 n (fun i => if i = k then c else lo i)) := ⟨O6.out.1.other _ _ _ ne03, O6.out.2.1.other _ _ _ ne13, O6.out.2.2.1.other _ _ _ ne23, O6.out.2.2.2.set k c⟩
  clear B6 O6
  have sz : (W6.setCell ⟨p3, k, none⟩ (.float .f64 c)).heap.size = W6.heap.size := by simp [World.setCell]
  have hbV : Below (W6.setCell ⟨p3, k, none⟩ (.float .f64 c)).heap.size (W6.setCell ⟨p3, k, none⟩ (.float .f64 c)) (((W6.setCell ⟨p3, k, none⟩ (.float .f64 c)).alloc (Obj.cells #[.slice (some ⟨p0, 0, none⟩) n n, .slice (some ⟨p2, 0, none⟩) n n] 26 (0, 0))).alloc (Obj.cells #[.slice (some ⟨p3, 0, none⟩) n n, .slice (some ⟨p1, 0, none⟩) n n] 26 (0, 0))) := ((Below.refl _ _).alloc (Nat.le_refl _) _).alloc (by simp) _
  have O8 : Hid (Own (((W6.setCell ⟨p3, k, none⟩ (.float .f64 c)).alloc (Obj.cells #[.slice (some ⟨p0, 0, none⟩) n n, .slice (some ⟨p2, 0, none⟩) n n] 26 (0, 0))).alloc (Obj.cells #[.slice (some ⟨p3, 0, none⟩) n n, .slice (some ⟨p1, 0, none⟩) n n] 26 (0, 0))) p0 n lo ∧ Own (((W6.setCell ⟨p3, k, none⟩ (.float .f64 c)).alloc (Obj.cells #[.slice (some ⟨p0, 0, none⟩) n n, .slice (some ⟨p2, 0, none⟩) n n] 26 (0, 0))).alloc (Obj.cells #[.slice (some ⟨p3, 0, none⟩) n n, .slice (some ⟨p1, 0, none⟩) n n] 26 (0, 0))) p1 n hi ∧ Own (((W6.setCell ⟨p3, k, none⟩ (.float .f64 c)).alloc (Obj.cells #[.slice (some ⟨p0, 0, none⟩) n n, .slice (some ⟨p2, 0, none⟩) n n] 26 (0, 0))).alloc (Obj.cells #[.slice (some ⟨p3, 0, none⟩) n n, .slice (some ⟨p1, 0, none⟩) n n] 26 (0, 0))) p2 n (fun i => if i = k then c else hi i) ∧ Own (((W6.setCell ⟨p3, k, none⟩ (.float .f64 c)).alloc (Obj.cells #[.slice (some ⟨p0, 0, none⟩) n n, .slice (some ⟨p2, 0, none⟩) n n] 26 (0, 0))).alloc (Obj.cells #[.slice (some ⟨p3, 0, none⟩) n n, .slice (some ⟨p1, 0, none⟩) n n] 26 (0, 0))) p3 n (fun i => if i = k then c else lo i)) :=
    ⟨O7.out.1.below hbV O7.out.1.lt, O7.out.2.1.below hbV O7.out.2.1.lt, O7.out.2.2.1.below hbV O7.out.2.2.1.lt, O7.out.2.2.2.below hbV O7.out.2.2.2.lt⟩
  have B8 : Hid (Below w.heap.size w (((W6.setCell ⟨p3, k, none⟩ (.float .f64 c)).alloc (Obj.cells #[.slice (some ⟨p0, 0, none⟩) n n, .slice (some ⟨p2, 0, none⟩) n n] 26 (0, 0))).alloc (Obj.cells #[.slice (some ⟨p3, 0, none⟩) n n, .slice (some ⟨p1, 0, none⟩) n n] 26 (0, 0)))) := B7.out.trans (hbV.mono B7.out.size)
  have hL0 : (((W6.setCell ⟨p3, k, none⟩ (.float .f64 c)).alloc (Obj.cells #[.slice (some ⟨p0, 0, none⟩) n n, .slice (some ⟨p2, 0, none⟩) n n] 26 (0, 0))).alloc (Obj.cells #[.slice (some ⟨p3, 0, none⟩) n n, .slice (some ⟨p1, 0, none⟩) n n] 26 (0, 0))).heap[W6.heap.size]? = some (Obj.cells #[.slice (some ⟨p0, 0, none⟩) n n, .slice (some ⟨p2, 0, none⟩) n n] 26 (0, 0)) := by
    rw [← sz, Below.heap_alloc _ _ _ (by simp), heap_alloc_new]
  have hH0 : (((W6.setCell ⟨p3, k, none⟩ (.float .f64 c)).alloc (Obj.cells #[.slice (some ⟨p0, 0, none⟩) n n, .slice (some ⟨p2, 0, none⟩) n n] 26 (0, 0))).alloc (Obj.cells #[.slice (some ⟨p3, 0, none⟩) n n, .slice (some ⟨p1, 0, none⟩) n n] 26 (0, 0))).heap[W6.heap.size + 1]? = some (Obj.cells #[.slice (some ⟨p3, 0, none⟩) n n, .slice (some ⟨p1, 0, none⟩) n n] 26 (0, 0)) := by
    have := heap_alloc_new ((W6.setCell ⟨p3, k, none⟩ (.float .f64 c)).alloc (Obj.cells #[.slice (some ⟨p0, 0, none⟩) n n, .slice (some ⟨p2, 0, none⟩) n n] 26 (0, 0))) (Obj.cells #[.slice (some ⟨p3, 0, none⟩) n n, .slice (some ⟨p1, 0, none⟩) n n] 26 (0, 0))
    rw [World.size_alloc, sz] at this
    exact this
  have HLH : Hid ((((W6.setCell ⟨p3, k, none⟩ (.float .f64 c)).alloc (Obj.cells #[.slice (some ⟨p0, 0, none⟩) n n, .slice (some ⟨p2, 0, none⟩) n n] 26 (0, 0))).alloc (Obj.cells #[.slice (some ⟨p3, 0, none⟩) n n, .slice (some ⟨p1, 0, none⟩) n n] 26 (0, 0))).heap[W6.heap.size]? = some (Obj.cells #[.slice (some ⟨p0, 0, none⟩) n n, .slice (some ⟨p2, 0, none⟩) n n] 26 (0, 0)) ∧ (((W6.setCell ⟨p3, k, none⟩ (.float .f64 c)).alloc (Obj.cells #[.slice (some ⟨p0, 0, none⟩) n n, .slice (some ⟨p2, 0, none⟩) n n] 26 (0, 0))).alloc (Obj.cells #[.slice (some ⟨p3, 0, none⟩) n n, .slice (some ⟨p1, 0, none⟩) n n] 26 (0, 0))).heap[W6.heap.size + 1]? = some (Obj.cells #[.slice (some ⟨p3, 0, none⟩) n n, .slice (some ⟨p1, 0, none⟩) n n] 26 (0, 0)) ∧ (((W6.setCell ⟨p3, k, none⟩ (.float .f64 c)).alloc (Obj.cells #[.slice (some ⟨p0, 0, none⟩) n n, .slice (some ⟨p2, 0, none⟩) n n] 26 (0, 0))).alloc (Obj.cells #[.slice (some ⟨p3, 0, none⟩) n n, .slice (some ⟨p1, 0, none⟩) n n] 26 (0, 0))).heap.size = W6.heap.size + 1 + 1) := ⟨hL0, hH0, by rw [World.size_alloc, World.size_alloc, sz]⟩
  clear hL0 hH0 hbV B7 O7 sz
  go_wp2_with fail
  refine (join_lh p0 p1 p3 p2 n k c n n n n lo hi _ hn hk O8.out.1.row O8.out.2.2.1.row O8.out.2.2.2.row O8.out.2.1.row HL.out.1 HL.out.2.1 HL.out.2.2).mono ?_
  rintro e W8 ⟨⟨e1, e2, k1, k2, rfl, hf1, hf2⟩, hb⟩
  clear t1 t2
  have hL1 : W8.heap[W6.heap.size]? = some (Obj.cells #[.slice (some ⟨p0, 0, none⟩) n n, .slice (some ⟨p2, 0, none⟩) n n] 26 (0, 0)) := (hb.block _ (by rw [HLH.out.2.2]; omega)).trans HLH.out.1
  have hH1 : W8.heap[W6.heap.size + 1]? = some (Obj.cells #[.slice (some ⟨p3, 0, none⟩) n n, .slice (some ⟨p1, 0, none⟩) n n] 26 (0, 0)) := (hb.block _ (by rw [HLH.out.2.2]; omega)).trans HLH.out.2.1
  have B9 : Hid (Below w.heap.size w W8) := B8.out.trans (hb.mono B8.out.size)
  have O9 : Hid (Own W8 p0 n lo ∧ Own W8 p1 n hi ∧ Own W8 p2 n (fun i => if i = k then c else hi i) ∧ Own W8 p3 n (fun i => if i = k then c else lo i)) :=
    ⟨O8.out.1.below hb O8.out.1.lt, O8.out.2.1.below hb O8.out.2.1.lt, O8.out.2.2.1.below hb O8.out.2.2.1.lt, O8.out.2.2.2.below hb O8.out.2.2.2.lt⟩
  have F9 : Hid (FRow W8 ⟨e1, 0, none⟩ n lo ∧ FRow W8 ⟨e2, 0, none⟩ n hi) := ⟨hf1, hf2⟩
  have sL : W6.heap.size + 1 < W8.heap.size := by have := hb.size; rw [HLH.out.2.2] at this; omega
  have m0 : ∀ o : Obj, (W8.alloc o).cell? ⟨W6.heap.size, 0, none⟩ = some (.slice (some ⟨p0, 0, none⟩) n n) := fun o => by rw [Lib.cell_of_heap ((Below.heap_alloc W8 o _ (by omega)).trans hL1)]; rfl
  have m1 : ∀ o : Obj, (W8.alloc o).cell? ⟨W6.heap.size, 1, none⟩ = some (.slice (some ⟨p2, 0, none⟩) n n) := fun o => by rw [Lib.cell_of_heap ((Below.heap_alloc W8 o _ (by omega)).trans hL1)]; rfl
  have m2 : ∀ o : Obj, (W8.alloc o).cell? ⟨W6.heap.size + 1, 0, none⟩ = some (.slice (some ⟨p3, 0, none⟩) n n) := fun o => by rw [Lib.cell_of_heap ((Below.heap_alloc W8 o _ (by omega)).trans hH1)]; rfl
  have m3 : ∀ o : Obj, (W8.alloc o).cell? ⟨W6.heap.size + 1, 1, none⟩ = some (.slice (some ⟨p1, 0, none⟩) n n) := fun o => by rw [Lib.cell_of_heap ((Below.heap_alloc W8 o _ (by omega)).trans hH1)]; rfl
  have m4 : W8.cell? ⟨W6.heap.size, 0, none⟩ = some (.slice (some ⟨p0, 0, none⟩) n n) := by rw [Lib.cell_of_heap hL1]; rfl
  have m5 : W8.cell? ⟨W6.heap.size, 1, none⟩ = some (.slice (some ⟨p2, 0, none⟩) n n) := by rw [Lib.cell_of_heap hL1]; rfl
  have m6 : W8.cell? ⟨W6.heap.size + 1, 0, none⟩ = some (.slice (some ⟨p3, 0, none⟩) n n) := by rw [Lib.cell_of_heap hH1]; rfl
  have m7 : W8.cell? ⟨W6.heap.size + 1, 1, none⟩ = some (.slice (some ⟨p1, 0, none⟩) n n) := by rw [Lib.cell_of_heap hH1]; rfl
  have nn1 : W6.heap.size ≠ W8.heap.size := by omega
  have nn2 : W6.heap.size + 1 ≠ W8.heap.size := by omega
  clear hb hf1 hf2 HLH B8 O8 hL1 hH1
  have hb8 : Below W8.heap.size W8 (W8.alloc (Obj.cells #[.slice (some ⟨e1, 0, none⟩) n k1, .slice (some ⟨e2, 0, none⟩) n k2] 26 (0, 0))) := (Below.refl _ _).alloc (Nat.le_refl _) _
  have O10 : Hid (Own (W8.alloc (Obj.cells #[.slice (some ⟨e1, 0, none⟩) n k1, .slice (some ⟨e2, 0, none⟩) n k2] 26 (0, 0))) p0 n lo ∧ Own (W8.alloc (Obj.cells #[.slice (some ⟨e1, 0, none⟩) n k1, .slice (some ⟨e2, 0, none⟩) n k2] 26 (0, 0))) p1 n hi ∧ Own (W8.alloc (Obj.cells #[.slice (some ⟨e1, 0, none⟩) n k1, .slice (some ⟨e2, 0, none⟩) n k2] 26 (0, 0))) p2 n (fun i => if i = k then c else hi i) ∧ Own (W8.alloc (Obj.cells #[.slice (some ⟨e1, 0, none⟩) n k1, .slice (some ⟨e2, 0, none⟩) n k2] 26 (0, 0))) p3 n (fun i => if i = k then c else lo i)) :=
    ⟨O9.out.1.below hb8 O9.out.1.lt, O9.out.2.1.below hb8 O9.out.2.1.lt, O9.out.2.2.1.below hb8 O9.out.2.2.1.lt, O9.out.2.2.2.below hb8 O9.out.2.2.2.lt⟩
  have F10 : Hid (FRow (W8.alloc (Obj.cells #[.slice (some ⟨e1, 0, none⟩) n k1, .slice (some ⟨e2, 0, none⟩) n k2] 26 (0, 0))) ⟨e1, 0, none⟩ n lo ∧ FRow (W8.alloc (Obj.cells #[.slice (some ⟨e1, 0, none⟩) n k1, .slice (some ⟨e2, 0, none⟩) n k2] 26 (0, 0))) ⟨e2, 0, none⟩ n hi) := ⟨F9.out.1.below hb8, F9.out.2.below hb8⟩
  have B10 : Hid (Below w.heap.size w (W8.alloc (Obj.cells #[.slice (some ⟨e1, 0, none⟩) n k1, .slice (some ⟨e2, 0, none⟩) n k2] 26 (0, 0)))) := B9.out.trans (hb8.mono B9.out.size)
  have hU0 : (W8.alloc (Obj.cells #[.slice (some ⟨e1, 0, none⟩) n k1, .slice (some ⟨e2, 0, none⟩) n k2] 26 (0, 0))).heap[W8.heap.size]? = some (Obj.cells #[.slice (some ⟨e1, 0, none⟩) n k1, .slice (some ⟨e2, 0, none⟩) n k2] 26 (0, 0)) := heap_alloc_new _ _
  have HU : Hid ((W8.alloc (Obj.cells #[.slice (some ⟨e1, 0, none⟩) n k1, .slice (some ⟨e2, 0, none⟩) n k2] 26 (0, 0))).heap[W8.heap.size]? = some (Obj.cells #[.slice (some ⟨e1, 0, none⟩) n k1, .slice (some ⟨e2, 0, none⟩) n k2] 26 (0, 0))) := hU0
  clear hU0 hb8 O9 F9 B9
  go_wp2_with fail
  refine (join_hl p0 p1 p3 p2 n k c n n n n lo hi _ hn hk O10.out.1.row O10.out.2.2.1.row O10.out.2.2.2.row O10.out.2.1.row HL.out.1 HL.out.2.1 HL.out.2.2).mono ?_
  rintro e W9 ⟨⟨e3, e4, k3, k4, rfl, hf3, hf4⟩, hb⟩
  clear m0 m1 m2 m3 m4 m5 m6 m7 nn1 nn2 sL
  have hU1 : W9.heap[W8.heap.size]? = some (Obj.cells #[.slice (some ⟨e1, 0, none⟩) n k1, .slice (some ⟨e2, 0, none⟩) n k2] 26 (0, 0)) := (hb.block _ (by simp)).trans HU.out
  have hb9 : Below W9.heap.size W9 (W9.alloc (Obj.cells #[.slice (some ⟨e3, 0, none⟩) n k3, .slice (some ⟨e4, 0, none⟩) n k4] 26 (0, 0))) := (Below.refl _ _).alloc (Nat.le_refl _) _
  have hlt : W8.heap.size < W9.heap.size := by have := hb.size; simp at this; omega
  have hU2 : (W9.alloc (Obj.cells #[.slice (some ⟨e3, 0, none⟩) n k3, .slice (some ⟨e4, 0, none⟩) n k4] 26 (0, 0))).heap[W8.heap.size]? = some (Obj.cells #[.slice (some ⟨e1, 0, none⟩) n k1, .slice (some ⟨e2, 0, none⟩) n k2] 26 (0, 0)) := (hb9.block _ hlt).trans hU1
  have hU3 : (W9.alloc (Obj.cells #[.slice (some ⟨e3, 0, none⟩) n k3, .slice (some ⟨e4, 0, none⟩) n k4] 26 (0, 0))).heap[W9.heap.size]? = some (Obj.cells #[.slice (some ⟨e3, 0, none⟩) n k3, .slice (some ⟨e4, 0, none⟩) n k4] 26 (0, 0)) := heap_alloc_new _ _
  have R11 : Hid (FRow (W9.alloc (Obj.cells #[.slice (some ⟨e3, 0, none⟩) n k3, .slice (some ⟨e4, 0, none⟩) n k4] 26 (0, 0))) ⟨e1, 0, none⟩ n lo ∧ FRow (W9.alloc (Obj.cells #[.slice (some ⟨e3, 0, none⟩) n k3, .slice (some ⟨e4, 0, none⟩) n k4] 26 (0, 0))) ⟨e2, 0, none⟩ n hi ∧ FRow (W9.alloc (Obj.cells #[.slice (some ⟨e3, 0, none⟩) n k3, .slice (some ⟨e4, 0, none⟩) n k4] 26 (0, 0))) ⟨e3, 0, none⟩ n lo ∧ FRow (W9.alloc (Obj.cells #[.slice (some ⟨e3, 0, none⟩) n k3, .slice (some ⟨e4, 0, none⟩) n k4] 26 (0, 0))) ⟨e4, 0, none⟩ n hi ∧ FRow (W9.alloc (Obj.cells #[.slice (some ⟨e3, 0, none⟩) n k3, .slice (some ⟨e4, 0, none⟩) n k4] 26 (0, 0))) ⟨p0, 0, none⟩ n lo ∧ FRow (W9.alloc (Obj.cells #[.slice (some ⟨e3, 0, none⟩) n k3, .slice (some ⟨e4, 0, none⟩) n k4] 26 (0, 0))) ⟨p1, 0, none⟩ n hi) := ⟨(F10.out.1.below hb).below hb9, (F10.out.2.below hb).below hb9, hf3.below hb9, hf4.below hb9, (O10.out.1.row.below hb).below hb9, (O10.out.2.1.row.below hb).below hb9⟩
  have B11 : Hid (Below w.heap.size w (W9.alloc (Obj.cells #[.slice (some ⟨e3, 0, none⟩) n k3, .slice (some ⟨e4, 0, none⟩) n k4] 26 (0, 0)))) := (B10.out.trans (hb.mono B10.out.size)).trans (hb9.mono (Nat.le_trans B10.out.size hb.size))
  have j0 : (W9.alloc (Obj.cells #[.slice (some ⟨e3, 0, none⟩) n k3, .slice (some ⟨e4, 0, none⟩) n k4] 26 (0, 0))).cell? ⟨W8.heap.size, 0, none⟩ = some (.slice (some ⟨e1, 0, none⟩) n k1) := by rw [Lib.cell_of_heap hU2]; rfl
  have j1 : (W9.alloc (Obj.cells #[.slice (some ⟨e3, 0, none⟩) n k3, .slice (some ⟨e4, 0, none⟩) n k4] 26 (0, 0))).cell? ⟨W8.heap.size, 1, none⟩ = some (.slice (some ⟨e2, 0, none⟩) n k2) := by rw [Lib.cell_of_heap hU2]; rfl
  have j2 : (W9.alloc (Obj.cells #[.slice (some ⟨e3, 0, none⟩) n k3, .slice (some ⟨e4, 0, none⟩) n k4] 26 (0, 0))).cell? ⟨W9.heap.size, 0, none⟩ = some (.slice (some ⟨e3, 0, none⟩) n k3) := by rw [Lib.cell_of_heap hU3]; rfl
  have j3 : (W9.alloc (Obj.cells #[.slice (some ⟨e3, 0, none⟩) n k3, .slice (some ⟨e4, 0, none⟩) n k4] 26 (0, 0))).cell? ⟨W9.heap.size, 1, none⟩ = some (.slice (some ⟨e4, 0, none⟩) n k4) := by rw [Lib.cell_of_heap hU3]; rfl
  have J : Hid ((W9.alloc (Obj.cells #[.slice (some ⟨e3, 0, none⟩) n k3, .slice (some ⟨e4, 0, none⟩) n k4] 26 (0, 0))).cell? ⟨W8.heap.size, 0, none⟩ = some (.slice (some ⟨e1, 0, none⟩) n k1) ∧ (W9.alloc (Obj.cells #[.slice (some ⟨e3, 0, none⟩) n k3, .slice (some ⟨e4, 0, none⟩) n k4] 26 (0, 0))).cell? ⟨W8.heap.size, 1, none⟩ = some (.slice (some ⟨e2, 0, none⟩) n k2) ∧ (W9.alloc (Obj.cells #[.slice (some ⟨e3, 0, none⟩) n k3, .slice (some ⟨e4, 0, none⟩) n k4] 26 (0, 0))).cell? ⟨W9.heap.size, 0, none⟩ = some (.slice (some ⟨e3, 0, none⟩) n k3) ∧ (W9.alloc (Obj.cells #[.slice (some ⟨e3, 0, none⟩) n k3, .slice (some ⟨e4, 0, none⟩) n k4] 26 (0, 0))).cell? ⟨W9.heap.size, 1, none⟩ = some (.slice (some ⟨e4, 0, none⟩) n k4)) := ⟨j0, j1, j2, j3⟩
  have j4 : W9.cell? ⟨W8.heap.size, 0, none⟩ = some (.slice (some ⟨e1, 0, none⟩) n k1) := by rw [Lib.cell_of_heap hU1]; rfl
  have j5 : W9.cell? ⟨W8.heap.size, 1, none⟩ = some (.slice (some ⟨e2, 0, none⟩) n k2) := by rw [Lib.cell_of_heap hU1]; rfl
  have nn : W8.heap.size ≠ W9.heap.size := by omega
  clear hf3 hf4 hb hb9 O10 F10 B10 HU hU1 hU2 hU3 j0 j1 j2 j3
  go_wp2_with fail
  refine (sameFs_yes ⟨e1, 0, none⟩ ⟨p0, 0, none⟩ n k1 n lo _ hn R11.out.1 R11.out.2.2.2.2.1 HNL.out.1).mono ?_
  rintro e Wa ⟨rfl, sa⟩
  have ja := (sa.cell _).trans J.out.2.1
  go_wp2_with fail
  refine (sameFs_yes ⟨e2, 0, none⟩ ⟨p1, 0, none⟩ n k2 n hi _ hn (sa.row R11.out.2.1) (sa.row R11.out.2.2.2.2.2) HNL.out.2).mono ?_
  rintro e Wb ⟨rfl, sb⟩
  have sab := sa.trans sb
  have jb := (sab.cell _).trans J.out.2.2.1
  clear ja sa sb
  go_wp2_with fail
  refine (sameFs_yes ⟨e3, 0, none⟩ ⟨p0, 0, none⟩ n k3 n lo _ hn (sab.row R11.out.2.2.1) (sab.row R11.out.2.2.2.2.1) HNL.out.1).mono ?_
  rintro e Wc ⟨rfl, sc⟩
  have sabc := sab.trans sc
  have jc := (sabc.cell _).trans J.out.2.2.2
  clear jb sab sc
  go_wp2_with fail
  refine (sameFs_yes ⟨e4, 0, none⟩ ⟨p1, 0, none⟩ n k4 n hi _ hn (sabc.row R11.out.2.2.2.1) (sabc.row R11.out.2.2.2.2.2) HNL.out.2).mono ?_
  rintro e Wd ⟨rfl, sd⟩
  have sall := sabc.trans sd
  have BZ : Hid (Below w.heap.size w Wd) := B11.out.trans (sall.1.mono B11.out.size)
  clear jc sabc sd sall
  go_wp2
  go_ret
  exact ⟨rfl, BZ.out⟩

end Go.Proofs.Qxb6600053a

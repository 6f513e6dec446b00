/-
  The rest of the proof of 'Rows.FnParentOfIsRootExactlyWhenEntryInZoneAndBoxSaid': the early returns, no dimension at all, the walk joined.
-/
import Derived.Test.Qxb6600053aFnParentOfProof
namespace Go.Proofs.Qxb6600053a.fnParentOf
open Go.ChangeShapes Go.WideShapes Go.ChangeAt Go.RowKit
open Go.Proofs.Qxb6600053a.Ord
set_option linter.unusedVariables false

set_option maxHeartbeats 1000000 in
theorem too_many (a0 a1 a2 a3 a4 : Option Addr) (n0 n1 n2 n3 n4 c0 c1 c2 c3 c4 : Nat) (w : World) (h : ¬ n0 + n1 + n2 + n3 + n4 ≤ 1048576) (b0 : n0 ≤ 9223372036854775807) (b1 : n1 ≤ 9223372036854775807) (b2 : n2 ≤ 9223372036854775807) (b3 : n3 ≤ 9223372036854775807) (b4 : n4 ≤ 9223372036854775807) :
    Calls Try.prog 9 #[.slice a0 n0 c0, .slice a1 n1 c1, .slice a2 n2 c2, .slice a3 n3 c3, .slice a4 n4 c4] w fun e w' => e = .returned (.bool true) ∧ Below w.heap.size w w' := by
  have H : Hid (¬ n0 + n1 + n2 + n3 + n4 ≤ 1048576) := h
  clear h
  go_enter Try.func9, Try.ntmps9
  go_wp2_with fail
  refine (bytes_no _ _ _ _ _ _ _ _ _ _ _ _ _ _ _ _ H.out b0 b1 b2 b3 b4).mono ?_
  rintro e w' ⟨rfl, rfl⟩
  go_wp2
  go_ret
  exact ⟨rfl, Below.refl _ _⟩

set_option maxHeartbeats 1000000 in
theorem too_wide (a0 a1 a2 a3 a4 : Option Addr) (n0 n1 n2 n3 n4 c0 c1 c2 c3 c4 : Nat) (w : World) (h : n0 + n1 + n2 + n3 + n4 ≤ 1048576) (h8 : 1048576 < 8 * (n0 + n1 + n2 + n3 + n4)) :
    Calls Try.prog 9 #[.slice a0 n0 c0, .slice a1 n1 c1, .slice a2 n2 c2, .slice a3 n3 c3, .slice a4 n4 c4] w fun e w' => e = .returned (.bool true) ∧ Below w.heap.size w w' := by
  have d0 : decide ((1048576 : Int) < (n0 : Int)) = false := decide_eq_false (by omega)
  have d1 : decide ((1048576 : Int) < (n1 : Int)) = false := decide_eq_false (by omega)
  have d2 : decide ((1048576 : Int) < (n2 : Int)) = false := decide_eq_false (by omega)
  have d3 : decide ((1048576 : Int) < (n3 : Int)) = false := decide_eq_false (by omega)
  have d4 : decide ((1048576 : Int) < (n4 : Int)) = false := decide_eq_false (by omega)
  go_enter Try.func9, Try.ntmps9
  go_wp2_with (go_at_call 24; refine (bytes_yes _ _ _ _ _ _ _ _ _ _ _ _ _ _ _ _ h).mono ?_; rintro e w' ⟨rfl, rfl⟩)
  go_ret
  exact ⟨rfl, Below.refl _ _⟩

set_option maxHeartbeats 1000000 in
theorem unlike (a0 a1 a2 a3 a4 : Option Addr) (n0 n1 n2 n3 n4 c0 c1 c2 c3 c4 : Nat) (w : World) (h8 : 8 * (n0 + n1 + n2 + n3 + n4) ≤ 1048576) (hne : ¬ (n0 = n4 ∧ n1 = n4 ∧ n2 = n4 ∧ n3 = n4)) :
    Calls Try.prog 9 #[.slice a0 n0 c0, .slice a1 n1 c1, .slice a2 n2 c2, .slice a3 n3 c3, .slice a4 n4 c4] w fun e w' => e = .returned (.bool true) ∧ Below w.heap.size w w' := by
  have h : n0 + n1 + n2 + n3 + n4 ≤ 1048576 := by omega
  have d0 : decide ((1048576 : Int) < (n0 : Int)) = false := decide_eq_false (by omega)
  have d1 : decide ((1048576 : Int) < (n1 : Int)) = false := decide_eq_false (by omega)
  have d2 : decide ((1048576 : Int) < (n2 : Int)) = false := decide_eq_false (by omega)
  have d3 : decide ((1048576 : Int) < (n3 : Int)) = false := decide_eq_false (by omega)
  have d4 : decide ((1048576 : Int) < (n4 : Int)) = false := decide_eq_false (by omega)
  have hcase : (((n0 : Int) != (n4 : Int)) = true) ∨ (((n0 : Int) != (n4 : Int)) = false ∧ ((n1 : Int) != (n4 : Int)) = true) ∨ (((n0 : Int) != (n4 : Int)) = false ∧ ((n1 : Int) != (n4 : Int)) = false ∧ ((n2 : Int) != (n4 : Int)) = true) ∨ (((n0 : Int) != (n4 : Int)) = false ∧ ((n1 : Int) != (n4 : Int)) = false ∧ ((n2 : Int) != (n4 : Int)) = false ∧ ((n3 : Int) != (n4 : Int)) = true) := by
    simp only [bne_iff_ne, bne_eq_false_iff_eq, ne_eq]
    omega
  clear hne
  rcases hcase with e0 | ⟨e0, e1⟩ | ⟨e0, e1, e2⟩ | ⟨e0, e1, e2, e3⟩
  all_goals
    go_enter Try.func9, Try.ntmps9
    go_wp2_with (go_at_call 24; refine (bytes_yes _ _ _ _ _ _ _ _ _ _ _ _ _ _ _ _ h).mono ?_; rintro e w' ⟨rfl, rfl⟩)
    go_ret
    exact ⟨rfl, Below.refl _ _⟩

set_option maxHeartbeats 2000000 in
theorem zero (a0 a1 a2 a3 a4 : Option Addr) (c0 c1 c2 c3 c4 : Nat) (w : World) (k0 : a0 = none → c0 = 0) (k1 : a1 = none → c1 = 0) (k2 : a2 = none → c2 = 0) (k3 : a3 = none → c3 = 0) (k4 : a4 = none → c4 = 0) :
    Calls Try.prog 9 #[.slice a0 0 c0, .slice a1 0 c1, .slice a2 0 c2, .slice a3 0 c3, .slice a4 0 c4] w fun e w' => e = .returned (.bool true) ∧ Below w.heap.size w w' := by
  go_enter Try.func9, Try.ntmps9
  go_wp2_with (first | (go_at_call 24; refine (bytes_yes _ _ _ _ _ _ _ _ _ _ _ _ _ _ _ _ (by omega)).mono ?_; rintro e w' ⟨rfl, rfl⟩) | (go_at_call 25; refine (noNaN_zero _ _ _).mono ?_; rintro e w' ⟨rfl, rfl⟩))
  refine (clone_zero _ _ _ k0).mono ?_
  rintro e W1 ⟨⟨y0, m0, rfl⟩, hb0⟩
  have B1 : Hid (Below w.heap.size w W1) := hb0
  clear hb0
  go_wp2_with fail
  refine (clone_zero _ _ _ k1).mono ?_
  rintro e W2 ⟨⟨y1, m1, rfl⟩, hb1⟩
  have B2 : Hid (Below w.heap.size w W2) := B1.out.trans (hb1.mono B1.out.size)
  clear hb1 B1
  go_wp2_with fail
  refine (clone_zero _ _ _ k2).mono ?_
  rintro e W3 ⟨⟨y2, m2, rfl⟩, hb2⟩
  have B3 : Hid (Below w.heap.size w W3) := B2.out.trans (hb2.mono B2.out.size)
  clear hb2 B2
  go_wp2_with fail
  refine (clone_zero _ _ _ k3).mono ?_
  rintro e W4 ⟨⟨y3, m3, rfl⟩, hb3⟩
  have B4 : Hid (Below w.heap.size w W4) := B3.out.trans (hb3.mono B3.out.size)
  clear hb3 B3
  go_wp2_with fail
  refine (clone_zero _ _ _ k4).mono ?_
  rintro e W5 ⟨⟨y4, m4, rfl⟩, hb4⟩
  have B5 : Hid (Below w.heap.size w W5) := B4.out.trans (hb4.mono B4.out.size)
  clear hb4 B4
  go_wp2_with fail
  refine (zzparent_of (Q := fun a b ch => a = 0 ∧ b = 0 ∧ ch = false) fun W hW => (parent_zero _ _ _ _ _ _ _ _ _ _ W).mono ?_).mono ?_
  · rintro e w' ⟨rfl, hb⟩
    exact ⟨⟨_, _, _, _, _, _, _, rfl, rfl, rfl, rfl⟩, hb⟩
  rintro e W6 ⟨⟨p1, n1, q1, p2, n2, q2, ch, rfl, rfl, rfl, rfl⟩, hb⟩
  have B6 : Hid (Below w.heap.size w W6) := B5.out.trans (hb.mono B5.out.size)
  clear hb B5
  go_wp2_with (go_at_call 18; refine (holds_zero _ _ _ _ _ _ _).mono ?_; rintro e w' ⟨rfl, rfl⟩)
  go_ret
  exact ⟨rfl, B6.out⟩

theorem isF_none {w : World} {a : Option Addr} {n c : Nat} (h : IsF w a n c) : a = none → c = 0 := by
  rcases h with ⟨_, _, h⟩ | ⟨_, _, rfl, _⟩
  · exact fun _ => h
  · intro h; cases h
theorem isF_len {w : World} {a : Option Addr} {n c : Nat} (h : IsF w a n c) : n ≤ 9223372036854775807 := by
  rcases h with ⟨_, h, _⟩ | ⟨_, _, _, h1, h2, _⟩
  · omega
  · unfold maxLen at h2; omega
theorem isF_some {w : World} {a : Option Addr} {n c : Nat} (h : IsF w a n c) (hn : n ≠ 0) : ∃ x f, a = some x ∧ FRow w x n f := by
  rcases h with ⟨_, h, _⟩ | ⟨x, f, h, _, _, h2⟩
  · exact absurd h hn
  · exact ⟨x, f, h, h2⟩

theorem walk (a0 a1 a2 a3 a4 : Option Addr) (n0 n1 n2 n3 n4 c0 c1 c2 c3 c4 : Nat) (w : World) (w0 : IsF w a0 n0 c0) (w1 : IsF w a1 n1 c1) (w2 : IsF w a2 n2 c2) (w3 : IsF w a3 n3 c3) (w4 : IsF w a4 n4 c4) :
    Calls Try.prog 9 #[.slice a0 n0 c0, .slice a1 n1 c1, .slice a2 n2 c2, .slice a3 n3 c3, .slice a4 n4 c4] w fun e w' => e = .returned (.bool true) ∧ Below w.heap.size w w' := by
  by_cases h : n0 + n1 + n2 + n3 + n4 ≤ 1048576
  rotate_left
  · exact too_many _ _ _ _ _ _ _ _ _ _ _ _ _ _ _ w h (isF_len w0) (isF_len w1) (isF_len w2) (isF_len w3) (isF_len w4)
  by_cases h8 : 8 * (n0 + n1 + n2 + n3 + n4) ≤ 1048576
  rotate_left
  · exact too_wide _ _ _ _ _ _ _ _ _ _ _ _ _ _ _ w h (by omega)
  by_cases hne : n0 = n4 ∧ n1 = n4 ∧ n2 = n4 ∧ n3 = n4
  rotate_left
  · exact unlike _ _ _ _ _ _ _ _ _ _ _ _ _ _ _ w h8 hne
  obtain ⟨rfl, rfl, rfl, rfl⟩ := hne
  by_cases hz : n3 = 0
  · subst hz
    exact zero _ _ _ _ _ _ _ _ _ _ w (isF_none w0) (isF_none w1) (isF_none w2) (isF_none w3) (isF_none w4)
  have h40 : 40 * n3 ≤ 1048576 := by omega
  obtain ⟨x0, f0, rfl, r0⟩ := isF_some w0 hz
  obtain ⟨x1, f1, rfl, r1⟩ := isF_some w1 hz
  obtain ⟨x2, f2, rfl, r2⟩ := isF_some w2 hz
  obtain ⟨x3, f3, rfl, r3⟩ := isF_some w3 hz
  obtain ⟨x4, f4, rfl, r4⟩ := isF_some w4 hz
  have hr := And.intro r0 (And.intro r1 (And.intro r2 (And.intro r3 r4)))
  by_cases m0 : NN f0 n3
  rotate_left
  · exact nan0 x0 x1 x2 x3 x4 n3 c0 c1 c2 c3 c4 f0 f1 f2 f3 f4 w h40 hr m0
  by_cases m1 : NN f1 n3
  rotate_left
  · exact nan1 x0 x1 x2 x3 x4 n3 c0 c1 c2 c3 c4 f0 f1 f2 f3 f4 w h40 hr m1 m0
  by_cases m2 : NN f2 n3
  rotate_left
  · exact nan2 x0 x1 x2 x3 x4 n3 c0 c1 c2 c3 c4 f0 f1 f2 f3 f4 w h40 hr m2 m0 m1
  by_cases m3 : NN f3 n3
  rotate_left
  · exact nan3 x0 x1 x2 x3 x4 n3 c0 c1 c2 c3 c4 f0 f1 f2 f3 f4 w h40 hr m3 m0 m1 m2
  by_cases m4 : NN f4 n3
  rotate_left
  · exact nan4 x0 x1 x2 x3 x4 n3 c0 c1 c2 c3 c4 f0 f1 f2 f3 f4 w h40 hr m4 m0 m1 m2 m3
  by_cases hA : Hold f0 f1 f4 n3
  rotate_left
  · exact main_ff x0 x1 x2 x3 x4 n3 c0 c1 c2 c3 c4 f0 f1 f2 f3 f4 w h40 hr ⟨m0, m1, m2, m3, m4⟩ hA
  by_cases hB : Hold f2 f3 f4 n3
  · exact main_tt x0 x1 x2 x3 x4 n3 c0 c1 c2 c3 c4 f0 f1 f2 f3 f4 w h40 hr ⟨m0, m1, m2, m3, m4⟩ hA hB
  · exact main_tf x0 x1 x2 x3 x4 n3 c0 c1 c2 c3 c4 f0 f1 f2 f3 f4 w h40 hr ⟨m0, m1, m2, m3, m4⟩ hA hB

end Go.Proofs.Qxb6600053a.fnParentOf

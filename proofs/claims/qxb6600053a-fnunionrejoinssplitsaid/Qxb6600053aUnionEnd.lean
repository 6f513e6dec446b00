/-
  The rest of the proof of 'Rows.FnUnionRejoinsSplitSaid': the early returns, the walk joined.
-/
import Derived.Test.Qxb6600053aFrame
import Derived.Test.Qxb6600053aUnionLaw
namespace Go.Proofs.Qxb6600053a.fnUnion
open Go.ChangeShapes Go.WideShapes Go.ChangeAt Go.RowKit
open Go.Proofs.Qxb6600053a.Ord
set_option linter.unusedVariables false

theorem too_many (a0 a1 : Option Addr) (n0 n1 c0 c1 : Nat) (kk : Int) (c : Nat) (w : World) (h : ¬ n0 + n1 ≤ 1048576) (b0 : n0 ≤ 9223372036854775807) (b1 : n1 ≤ 9223372036854775807) :
    Calls Try.prog 4 #[.slice a0 n0 c0, .slice a1 n1 c1, .int .i64 kk, .float .f64 c] w fun e w' => e = .returned (.bool true) ∧ Below w.heap.size w w' := by
  have H : Hid (¬ n0 + n1 ≤ 1048576) := h
  clear h
  go_enter Try.func4, Try.ntmps4
  go_wp2_with fail
  refine (bytes15_no _ _ _ _ _ _ _ _ _ H.out b0 b1).mono ?_
  rintro e w' ⟨rfl, rfl⟩
  go_wp2
  go_ret
  exact ⟨rfl, Below.refl _ _⟩

theorem too_wide (a0 a1 : Option Addr) (n0 n1 c0 c1 : Nat) (kk : Int) (c : Nat) (w : World) (h : n0 + n1 ≤ 1048576) (h8 : 1048576 < 8 * (n0 + n1)) :
    Calls Try.prog 4 #[.slice a0 n0 c0, .slice a1 n1 c1, .int .i64 kk, .float .f64 c] w fun e w' => e = .returned (.bool true) ∧ Below w.heap.size w w' := by
  have d0 : decide ((1048576 : Int) < (n0 : Int)) = false := decide_eq_false (by omega)
  have d1 : decide ((1048576 : Int) < (n1 : Int)) = false := decide_eq_false (by omega)
  go_enter Try.func4, Try.ntmps4
  go_wp2_with (go_at_call 15; refine (bytes15_yes _ _ _ _ _ _ _ _ _ h).mono ?_; rintro e w' ⟨rfl, rfl⟩)
  go_ret
  exact ⟨rfl, Below.refl _ _⟩

theorem unlike (a0 a1 : Option Addr) (n0 n1 c0 c1 : Nat) (kk : Int) (c : Nat) (w : World) (h8 : 8 * (n0 + n1) ≤ 1048576) (hne : ¬ (n1 = n0 ∧ 0 ≤ kk ∧ kk < n0)) :
    Calls Try.prog 4 #[.slice a0 n0 c0, .slice a1 n1 c1, .int .i64 kk, .float .f64 c] w fun e w' => e = .returned (.bool true) ∧ Below w.heap.size w w' := by
  have h : n0 + n1 ≤ 1048576 := by omega
  have d0 : decide ((1048576 : Int) < (n0 : Int)) = false := decide_eq_false (by omega)
  have d1 : decide ((1048576 : Int) < (n1 : Int)) = false := decide_eq_false (by omega)
  have hcase : (((n1 : Int) != (n0 : Int)) = true) ∨ (((n1 : Int) != (n0 : Int)) = false ∧ decide (kk < 0) = true) ∨ (((n1 : Int) != (n0 : Int)) = false ∧ decide (kk < 0) = false ∧ decide ((n0 : Int) ≤ kk) = true) := by
    simp only [bne_iff_ne, bne_eq_false_iff_eq, ne_eq, decide_eq_true_eq, decide_eq_false_iff_not]
    omega
  clear hne
  rcases hcase with e0 | ⟨e0, e1⟩ | ⟨e0, e1, e2⟩
  all_goals
    go_enter Try.func4, Try.ntmps4
    go_wp2_with (go_at_call 15; refine (bytes15_yes _ _ _ _ _ _ _ _ _ h).mono ?_; rintro e w' ⟨rfl, rfl⟩)
    go_ret
    exact ⟨rfl, Below.refl _ _⟩

set_option maxHeartbeats 1000000 in
theorem not_well (x0 x1 : Addr) (n c0 c1 k c : Nat) (lo hi : Nat → Nat) (w : World) (h8 : 16 * n ≤ 1048576) (hk : k < n) (r0 : FRow w x0 n lo) (r1 : FRow w x1 n hi) (hwf : ¬ WF lo hi n) :
    Calls Try.prog 4 #[.slice (some x0) n c0, .slice (some x1) n c1, .int .i64 k, .float .f64 c] w fun e w' => e = .returned (.bool true) ∧ Below w.heap.size w w' := by
  have h : n + n ≤ 1048576 := by omega
  have hn : n ≤ 1048576 := by omega
  have d : decide ((1048576 : Int) < (n : Int)) = false := decide_eq_false (by omega)
  have e0 : ((n : Int) != (n : Int)) = false := by simp
  have dk0 : decide ((k : Int) < 0) = false := decide_eq_false (by omega)
  have dk1 : decide ((n : Int) ≤ (k : Int)) = false := decide_eq_false (by omega)
  have HR : Hid (FRow w x0 n lo ∧ FRow w x1 n hi ∧ ¬ WF lo hi n) := ⟨r0, r1, hwf⟩
  clear hwf r0 r1
  go_enter Try.func4, Try.ntmps4
  go_wp2_with (go_at_call 15; refine (bytes15_yes _ _ _ _ _ _ _ _ _ h).mono ?_; rintro e w' ⟨rfl, rfl⟩)
  refine (wellFormed_no x0 x1 n c0 c1 lo hi _ hn HR.out.1 HR.out.2.1 HR.out.2.2).mono ?_
  rintro e W1 ⟨rfl, s1⟩
  go_wp2
  go_ret
  exact ⟨rfl, s1.1⟩

set_option maxHeartbeats 1000000 in
theorem not_between (x0 x1 : Addr) (n c0 c1 k c : Nat) (lo hi : Nat → Nat) (w : World) (h8 : 16 * n ≤ 1048576) (hk : k < n) (r0 : FRow w x0 n lo) (r1 : FRow w x1 n hi) (hwf : WF lo hi n) (hb : ¬ (O (lo k) c = some .lt ∧ O c (hi k) = some .lt)) :
    Calls Try.prog 4 #[.slice (some x0) n c0, .slice (some x1) n c1, .int .i64 k, .float .f64 c] w fun e w' => e = .returned (.bool true) ∧ Below w.heap.size w w' := by
  have h : n + n ≤ 1048576 := by omega
  have hn : n ≤ 1048576 := by omega
  have d : decide ((1048576 : Int) < (n : Int)) = false := decide_eq_false (by omega)
  have e0 : ((n : Int) != (n : Int)) = false := by simp
  have dk0 : decide ((k : Int) < 0) = false := decide_eq_false (by omega)
  have dk1 : decide ((n : Int) ≤ (k : Int)) = false := decide_eq_false (by omega)
  have hk' : (k : Int) < (n : Int) := by omega
  have hcase : ((FloatKind.f64.format.order (lo k) c == some Ordering.lt) = false) ∨ ((FloatKind.f64.format.order (lo k) c == some Ordering.lt) = true ∧ (FloatKind.f64.format.order c (hi k) == some Ordering.lt) = false) := by
    by_cases l1 : O (lo k) c = some .lt
    · by_cases l2 : O c (hi k) = some .lt
      · exact absurd ⟨l1, l2⟩ hb
      · exact .inr ⟨by simpa [O] using l1, by simpa [O] using l2⟩
    · exact .inl (by simpa [O] using l1)
  have HR : Hid (FRow w x0 n lo ∧ FRow w x1 n hi ∧ WF lo hi n) := ⟨r0, r1, hwf⟩
  clear hwf r0 r1 hb
  rcases hcase with b1 | ⟨b1, b2⟩
  all_goals
    go_enter Try.func4, Try.ntmps4
    go_wp2_with (go_at_call 15; refine (bytes15_yes _ _ _ _ _ _ _ _ _ h).mono ?_; rintro e w' ⟨rfl, rfl⟩)
    refine (wellFormed_yes x0 x1 n c0 c1 lo hi _ hn HR.out.1 HR.out.2.1 HR.out.2.2).mono ?_
    rintro e W1 ⟨rfl, s1⟩
    have q0 := (s1.row HR.out.1) k hk
    have q1 := (s1.row HR.out.2.1) k hk
    go_wp2
    go_ret
    exact ⟨rfl, s1.1⟩

theorem isF_len {w : World} {a : Option Addr} {n c : Nat} (h : IsF w a n c) : n ≤ 9223372036854775807 := by
  rcases h with ⟨_, h, _⟩ | ⟨_, _, _, h1, h2, _⟩
  · omega
  · unfold maxLen at h2; omega
theorem isF_some {w : World} {a : Option Addr} {n c : Nat} (h : IsF w a n c) (hn : n ≠ 0) : ∃ x f, a = some x ∧ FRow w x n f := by
  rcases h with ⟨_, h, _⟩ | ⟨x, f, h, _, _, h2⟩
  · exact absurd h hn
  · exact ⟨x, f, h, h2⟩

theorem walk (a0 a1 : Option Addr) (n0 n1 c0 c1 : Nat) (kk : Int) (c : Nat) (w : World) (w0 : IsF w a0 n0 c0) (w1 : IsF w a1 n1 c1) :
    Calls Try.prog 4 #[.slice a0 n0 c0, .slice a1 n1 c1, .int .i64 kk, .float .f64 c] w fun e w' => e = .returned (.bool true) ∧ Below w.heap.size w w' := by
  by_cases h : n0 + n1 ≤ 1048576
  rotate_left
  · exact too_many _ _ _ _ _ _ _ _ w h (isF_len w0) (isF_len w1)
  by_cases h8 : 8 * (n0 + n1) ≤ 1048576
  rotate_left
  · exact too_wide _ _ _ _ _ _ _ _ w h (by omega)
  by_cases hne : n1 = n0 ∧ 0 ≤ kk ∧ kk < n0
  rotate_left
  · exact unlike _ _ _ _ _ _ _ _ w h8 hne
  obtain ⟨rfl, k1, k2⟩ := hne
  obtain ⟨k, rfl⟩ := Int.eq_ofNat_of_zero_le k1
  have hk : k < n1 := by omega
  obtain ⟨x0, lo, rfl, r0⟩ := isF_some w0 (by omega)
  obtain ⟨x1, hi, rfl, r1⟩ := isF_some w1 (by omega)
  have h16 : 16 * n1 ≤ 1048576 := by omega
  by_cases hwf : WF lo hi n1
  rotate_left
  · exact not_well x0 x1 n1 c0 c1 k c lo hi w h16 hk r0 r1 hwf
  by_cases hb : O (lo k) c = some .lt ∧ O c (hi k) = some .lt
  · exact main4 x0 x1 n1 c0 c1 k c lo hi w h16 hk r0 r1 hwf hb.1 hb.2
  · exact not_between x0 x1 n1 c0 c1 k c lo hi w h16 hk r0 r1 hwf hb

end Go.Proofs.Qxb6600053a.fnUnion

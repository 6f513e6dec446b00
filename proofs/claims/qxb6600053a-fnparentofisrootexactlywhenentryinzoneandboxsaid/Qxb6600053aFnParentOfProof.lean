/-
  The proof of 'Rows.FnParentOfIsRootExactlyWhenEntryInZoneAndBoxSaid': the walk of the law out of its callees' contracts, and the row's step.
-/
import Derived.Test.Qxb6600053aFrame
import Derived.Test.Qxb6600053aParent
import Derived.Test.Qxb6600053aParent0
namespace Go.Proofs.Qxb6600053a.fnParentOf
open Go.ChangeShapes Go.WideShapes Go.ChangeAt Go.RowKit
open Go.Proofs.Qxb6600053a.Ord
set_option linter.unusedVariables false

/-! ### STEP 1: THE WALK -/
theorem bytes_yes (a0 a1 a2 a3 a4 : Option Addr) (n0 n1 n2 n3 n4 c0 c1 c2 c3 c4 : Nat) (w : World) (h : n0 + n1 + n2 + n3 + n4 ≤ 1048576) :
    Calls Try.prog 24 #[.slice a0 n0 c0, .slice a1 n1 c1, .slice a2 n2 c2, .slice a3 n3 c3, .slice a4 n4 c4] w fun e w' => e = .returned (.bool true) ∧ w = w' := by
  go_enter Try.func24, Try.ntmps24
  go_wp2
  go_ret
  exact ⟨rfl, rfl⟩
set_option maxHeartbeats 1000000 in
theorem bytes_no (a0 a1 a2 a3 a4 : Option Addr) (n0 n1 n2 n3 n4 c0 c1 c2 c3 c4 : Nat) (w : World) (h : ¬ n0 + n1 + n2 + n3 + n4 ≤ 1048576) (b0 : n0 ≤ 9223372036854775807) (b1 : n1 ≤ 9223372036854775807) (b2 : n2 ≤ 9223372036854775807) (b3 : n3 ≤ 9223372036854775807) (b4 : n4 ≤ 9223372036854775807) :
    Calls Try.prog 24 #[.slice a0 n0 c0, .slice a1 n1 c1, .slice a2 n2 c2, .slice a3 n3 c3, .slice a4 n4 c4] w fun e w' => e = .returned (.bool false) ∧ w = w' := by
  rcases (show 1048576 < n0 ∨ (n0 ≤ 1048576 ∧ 1048576 < n1) ∨ (n0 ≤ 1048576 ∧ n1 ≤ 1048576 ∧ 1048576 < n0 + n1) ∨ (n0 + n1 ≤ 1048576 ∧ 1048576 < n2) ∨ (n0 + n1 ≤ 1048576 ∧ n2 ≤ 1048576 ∧ 1048576 < n0 + n1 + n2) ∨ (n0 + n1 + n2 ≤ 1048576 ∧ 1048576 < n3) ∨ (n0 + n1 + n2 ≤ 1048576 ∧ n3 ≤ 1048576 ∧ 1048576 < n0 + n1 + n2 + n3) ∨ (n0 + n1 + n2 + n3 ≤ 1048576 ∧ 1048576 < n4) ∨ (n0 + n1 + n2 + n3 ≤ 1048576 ∧ n4 ≤ 1048576 ∧ 1048576 < n0 + n1 + n2 + n3 + n4) by omega) with h' | ⟨h1, h'⟩ | ⟨h1, h2, h'⟩ | ⟨h1, h'⟩ | ⟨h1, h2, h'⟩ | ⟨h1, h'⟩ | ⟨h1, h2, h'⟩ | ⟨h1, h'⟩ | ⟨h1, h2, h'⟩
  all_goals
    clear h
    go_enter Try.func24, Try.ntmps24
    go_wp2
    go_ret
    exact ⟨rfl, rfl⟩

theorem noNaN_yes (x : Addr) (n c : Nat) (f : Nat → Nat) (w : World) (hn : n ≤ 1048576) (hr : FRow w x n f) (h : NN f n) :
    Calls Try.prog 25 #[.slice (some x) n c] w fun e w' => e = .returned (.bool true) ∧ Same w w' :=
  (noNaN_pos x n c f w hn hr).mono fun e w' hh => by
    rcases hh with ⟨⟨_, he⟩ | ⟨hx, _⟩, hs⟩
    · exact ⟨he, hs⟩
    · exact absurd h hx
theorem noNaN_no (x : Addr) (n c : Nat) (f : Nat → Nat) (w : World) (hn : n ≤ 1048576) (hr : FRow w x n f) (h : ¬ NN f n) :
    Calls Try.prog 25 #[.slice (some x) n c] w fun e w' => e = .returned (.bool false) ∧ Same w w' :=
  (noNaN_pos x n c f w hn hr).mono fun e w' hh => by
    rcases hh with ⟨⟨hx, _⟩ | ⟨_, he⟩, hs⟩
    · exact absurd hx h
    · exact ⟨he, hs⟩
theorem holds_yes (x y z : Addr) (n c1 c2 c3 : Nat) (f g p : Nat → Nat) (w : World) (hn : n ≤ 1048576) (h1 : FRow w x n f) (h2 : FRow w y n g) (h3 : FRow w z n p) (h : Hold f g p n) :
    Calls Try.prog 18 #[.slice (some x) n c1, .slice (some y) n c2, .slice (some z) n c3] w fun e w' => e = .returned (.bool true) ∧ Same w w' :=
  (holds_pos x y z n c1 c2 c3 f g p w hn h1 h2 h3).mono fun e w' hh => by
    rcases hh with ⟨⟨_, he⟩ | ⟨hx, _⟩, hs⟩
    · exact ⟨he, hs⟩
    · exact absurd h hx
theorem holds_no (x y z : Addr) (n c1 c2 c3 : Nat) (f g p : Nat → Nat) (w : World) (hn : n ≤ 1048576) (h1 : FRow w x n f) (h2 : FRow w y n g) (h3 : FRow w z n p) (h : ¬ Hold f g p n) :
    Calls Try.prog 18 #[.slice (some x) n c1, .slice (some y) n c2, .slice (some z) n c3] w fun e w' => e = .returned (.bool false) ∧ Same w w' :=
  (holds_pos x y z n c1 c2 c3 f g p w hn h1 h2 h3).mono fun e w' hh => by
    rcases hh with ⟨⟨hx, _⟩ | ⟨_, he⟩, hs⟩
    · exact absurd hx h
    · exact ⟨he, hs⟩
/-- The clone, its place left open. -/
theorem clone_ex (x : Addr) (n c : Nat) (f : Nat → Nat) (w : World) (hn : n ≤ 1048576) (hr : FRow w x n f) :
    Calls Try.prog 12 #[.slice (some x) n c] w fun e w' => ∃ y : Addr, e = .returned (.slice (some y) n n) ∧ Below w.heap.size w w' ∧ FRow w' y n f :=
  (clone_some x n c f w hn hr).mono fun e w' h => ⟨_, h.1, h.2.1, h.2.2.2.1⟩

theorem parent_yes (x1 x2 y1 y2 z : Addr) (n c1 c2 c3 c4 c5 : Nat) (f1 f2 g1 g2 p : Nat → Nat) (w : World) (hn : n ≤ 1048576)
    (h1 : FRow w x1 n f1) (h2 : FRow w x2 n f2) (h3 : FRow w y1 n g1) (h4 : FRow w y2 n g2) (h5 : FRow w z n p) (n1 : NN f1 n) (n2 : NN f2 n) (n3 : NN g1 n) (n4 : NN g2 n) (n5 : NN p n) (hh : Hold f1 f2 p n ∧ Hold g1 g2 p n) :
    Calls Try.prog 26 #[.agg #[.slice (some x1) n c1, .slice (some x2) n c2], .agg #[.slice (some y1) n c3, .slice (some y2) n c4], .slice (some z) n c5] w fun e w' =>
      (∃ a1 k1 a2 k2, e = .returned (.tuple #[.slice a1 0 k1, .slice a2 0 k2, .bool false])) ∧ Below w.heap.size w w' := by
  refine (zzparent_of (Q := fun a b ch => a = 0 ∧ b = 0 ∧ ch = false) fun W hW => (parent_pos x1 x2 y1 y2 z n c1 c2 c3 c4 c5 f1 f2 g1 g2 p W hn (h1.below hW) (h2.below hW) (h3.below hW) (h4.below hW) (h5.below hW) n1 n2 n3 n4 n5).mono ?_).mono ?_
  · rintro e w' ⟨⟨a, b, m, ca, cb, ch, rfl, h⟩, hb⟩
    rcases h with ⟨h1, h2, _⟩ | ⟨_, _, h3⟩
    · exact ⟨⟨_, _, _, _, _, _, _, rfl, h2, h2, h1⟩, hb⟩
    · exact absurd hh h3
  · rintro e w' ⟨⟨a1, n1, k1, a2, n2, k2, ch, rfl, rfl, rfl, rfl⟩, hb⟩
    exact ⟨⟨_, _, _, _, rfl⟩, hb⟩
theorem parent_no (x1 x2 y1 y2 z : Addr) (n c1 c2 c3 c4 c5 : Nat) (f1 f2 g1 g2 p : Nat → Nat) (w : World) (hn : n ≤ 1048576)
    (h1 : FRow w x1 n f1) (h2 : FRow w x2 n f2) (h3 : FRow w y1 n g1) (h4 : FRow w y2 n g2) (h5 : FRow w z n p) (n1 : NN f1 n) (n2 : NN f2 n) (n3 : NN g1 n) (n4 : NN g2 n) (n5 : NN p n) (hh : ¬ (Hold f1 f2 p n ∧ Hold g1 g2 p n)) :
    Calls Try.prog 26 #[.agg #[.slice (some x1) n c1, .slice (some x2) n c2], .agg #[.slice (some y1) n c3, .slice (some y2) n c4], .slice (some z) n c5] w fun e w' =>
      (∃ a1 k1 a2 k2, e = .returned (.tuple #[.slice a1 n k1, .slice a2 n k2, .bool true])) ∧ Below w.heap.size w w' := by
  refine (zzparent_of (Q := fun a b ch => a = n ∧ b = n ∧ ch = true) fun W hW => (parent_pos x1 x2 y1 y2 z n c1 c2 c3 c4 c5 f1 f2 g1 g2 p W hn (h1.below hW) (h2.below hW) (h3.below hW) (h4.below hW) (h5.below hW) n1 n2 n3 n4 n5).mono ?_).mono ?_
  · rintro e w' ⟨⟨a, b, m, ca, cb, ch, rfl, h⟩, hb⟩
    rcases h with ⟨_, _, h3⟩ | ⟨h1, h2, _⟩
    · exact absurd h3 hh
    · exact ⟨⟨_, _, _, _, _, _, _, rfl, h2, h2, h1⟩, hb⟩
  · rintro e w' ⟨⟨a1, n1, k1, a2, n2, k2, ch, rfl, rfl, rfl, rfl⟩, hb⟩
    exact ⟨⟨_, _, _, _, rfl⟩, hb⟩

set_option maxHeartbeats 1000000 in
theorem nan0 (x0 x1 x2 x3 x4 : Addr) (n c0 c1 c2 c3 c4 : Nat) (f0 f1 f2 f3 f4 : Nat → Nat) (w : World) (h8 : 40 * n ≤ 1048576) (hr : FRow w x0 n f0 ∧ FRow w x1 n f1 ∧ FRow w x2 n f2 ∧ FRow w x3 n f3 ∧ FRow w x4 n f4) (hN : ¬ NN f0 n) :
    Calls Try.prog 9 #[.slice (some x0) n c0, .slice (some x1) n c1, .slice (some x2) n c2, .slice (some x3) n c3, .slice (some x4) n c4] w fun e w' => e = .returned (.bool true) ∧ Below w.heap.size w w' := by
  have h : n + n + n + n + n ≤ 1048576 := by omega
  have hn : n ≤ 1048576 := by omega
  have HR : Hid (FRow w x0 n f0 ∧ FRow w x1 n f1 ∧ FRow w x2 n f2 ∧ FRow w x3 n f3 ∧ FRow w x4 n f4) := hr
  clear hr
  have d : decide ((1048576 : Int) < (n : Int)) = false := decide_eq_false (by omega)
  have e0 : ((n : Int) != (n : Int)) = false := by simp
  have S0 := Same.refl w
  go_enter Try.func9, Try.ntmps9
  go_wp2_with (go_at_call 24; refine (bytes_yes _ _ _ _ _ _ _ _ _ _ _ _ _ _ _ _ h).mono ?_; rintro e w' ⟨rfl, rfl⟩)
  refine (noNaN_no x0 n c0 f0 _ hn (S0.row HR.out.1) hN).mono ?_
  rintro e W1 ⟨rfl, s0⟩
  have S1 := S0.trans s0
  go_wp2
  go_ret
  exact ⟨rfl, S1.1⟩

set_option maxHeartbeats 1000000 in
theorem nan1 (x0 x1 x2 x3 x4 : Addr) (n c0 c1 c2 c3 c4 : Nat) (f0 f1 f2 f3 f4 : Nat → Nat) (w : World) (h8 : 40 * n ≤ 1048576) (hr : FRow w x0 n f0 ∧ FRow w x1 n f1 ∧ FRow w x2 n f2 ∧ FRow w x3 n f3 ∧ FRow w x4 n f4) (hN : ¬ NN f1 n) (m0 : NN f0 n) :
    Calls Try.prog 9 #[.slice (some x0) n c0, .slice (some x1) n c1, .slice (some x2) n c2, .slice (some x3) n c3, .slice (some x4) n c4] w fun e w' => e = .returned (.bool true) ∧ Below w.heap.size w w' := by
  have h : n + n + n + n + n ≤ 1048576 := by omega
  have hn : n ≤ 1048576 := by omega
  have HR : Hid (FRow w x0 n f0 ∧ FRow w x1 n f1 ∧ FRow w x2 n f2 ∧ FRow w x3 n f3 ∧ FRow w x4 n f4) := hr
  clear hr
  have d : decide ((1048576 : Int) < (n : Int)) = false := decide_eq_false (by omega)
  have e0 : ((n : Int) != (n : Int)) = false := by simp
  have S0 := Same.refl w
  go_enter Try.func9, Try.ntmps9
  go_wp2_with (go_at_call 24; refine (bytes_yes _ _ _ _ _ _ _ _ _ _ _ _ _ _ _ _ h).mono ?_; rintro e w' ⟨rfl, rfl⟩)
  refine (noNaN_yes x0 n c0 f0 _ hn (S0.row HR.out.1) m0).mono ?_
  rintro e W1 ⟨rfl, s0⟩
  have S1 := S0.trans s0
  go_wp2_with fail
  refine (noNaN_no x1 n c1 f1 _ hn (S1.row HR.out.2.1) hN).mono ?_
  rintro e W2 ⟨rfl, s1⟩
  have S2 := S1.trans s1
  go_wp2
  go_ret
  exact ⟨rfl, S2.1⟩

set_option maxHeartbeats 1000000 in
theorem nan2 (x0 x1 x2 x3 x4 : Addr) (n c0 c1 c2 c3 c4 : Nat) (f0 f1 f2 f3 f4 : Nat → Nat) (w : World) (h8 : 40 * n ≤ 1048576) (hr : FRow w x0 n f0 ∧ FRow w x1 n f1 ∧ FRow w x2 n f2 ∧ FRow w x3 n f3 ∧ FRow w x4 n f4) (hN : ¬ NN f2 n) (m0 : NN f0 n) (m1 : NN f1 n) :
    Calls Try.prog 9 #[.slice (some x0) n c0, .slice (some x1) n c1, .slice (some x2) n c2, .slice (some x3) n c3, .slice (some x4) n c4] w fun e w' => e = .returned (.bool true) ∧ Below w.heap.size w w' := by
  have h : n + n + n + n + n ≤ 1048576 := by omega
  have hn : n ≤ 1048576 := by omega
  have HR : Hid (FRow w x0 n f0 ∧ FRow w x1 n f1 ∧ FRow w x2 n f2 ∧ FRow w x3 n f3 ∧ FRow w x4 n f4) := hr
  clear hr
  have d : decide ((1048576 : Int) < (n : Int)) = false := decide_eq_false (by omega)
  have e0 : ((n : Int) != (n : Int)) = false := by simp
  have S0 := Same.refl w
  go_enter Try.func9, Try.ntmps9
  go_wp2_with (go_at_call 24; refine (bytes_yes _ _ _ _ _ _ _ _ _ _ _ _ _ _ _ _ h).mono ?_; rintro e w' ⟨rfl, rfl⟩)
  refine (noNaN_yes x0 n c0 f0 _ hn (S0.row HR.out.1) m0).mono ?_
  rintro e W1 ⟨rfl, s0⟩
  have S1 := S0.trans s0
  go_wp2_with fail
  refine (noNaN_yes x1 n c1 f1 _ hn (S1.row HR.out.2.1) m1).mono ?_
  rintro e W2 ⟨rfl, s1⟩
  have S2 := S1.trans s1
  go_wp2_with fail
  refine (noNaN_no x2 n c2 f2 _ hn (S2.row HR.out.2.2.1) hN).mono ?_
  rintro e W3 ⟨rfl, s2⟩
  have S3 := S2.trans s2
  go_wp2
  go_ret
  exact ⟨rfl, S3.1⟩

set_option maxHeartbeats 1000000 in
theorem nan3 (x0 x1 x2 x3 x4 : Addr) (n c0 c1 c2 c3 c4 : Nat) (f0 f1 f2 f3 f4 : Nat → Nat) (w : World) (h8 : 40 * n ≤ 1048576) (hr : FRow w x0 n f0 ∧ FRow w x1 n f1 ∧ FRow w x2 n f2 ∧ FRow w x3 n f3 ∧ FRow w x4 n f4) (hN : ¬ NN f3 n) (m0 : NN f0 n) (m1 : NN f1 n) (m2 : NN f2 n) :
    Calls Try.prog 9 #[.slice (some x0) n c0, .slice (some x1) n c1, .slice (some x2) n c2, .slice (some x3) n c3, .slice (some x4) n c4] w fun e w' => e = .returned (.bool true) ∧ Below w.heap.size w w' := by
  have h : n + n + n + n + n ≤ 1048576 := by omega
  have hn : n ≤ 1048576 := by omega
  have HR : Hid (FRow w x0 n f0 ∧ FRow w x1 n f1 ∧ FRow w x2 n f2 ∧ FRow w x3 n f3 ∧ FRow w x4 n f4) := hr
  clear hr
  have d : decide ((1048576 : Int) < (n : Int)) = false := decide_eq_false (by omega)
  have e0 : ((n : Int) != (n : Int)) = false := by simp
  have S0 := Same.refl w
  go_enter Try.func9, Try.ntmps9
  go_wp2_with (go_at_call 24; refine (bytes_yes _ _ _ _ _ _ _ _ _ _ _ _ _ _ _ _ h).mono ?_; rintro e w' ⟨rfl, rfl⟩)
  refine (noNaN_yes x0 n c0 f0 _ hn (S0.row HR.out.1) m0).mono ?_
  rintro e W1 ⟨rfl, s0⟩
  have S1 := S0.trans s0
  go_wp2_with fail
  refine (noNaN_yes x1 n c1 f1 _ hn (S1.row HR.out.2.1) m1).mono ?_
  rintro e W2 ⟨rfl, s1⟩
  have S2 := S1.trans s1
  go_wp2_with fail
  refine (noNaN_yes x2 n c2 f2 _ hn (S2.row HR.out.2.2.1) m2).mono ?_
  rintro e W3 ⟨rfl, s2⟩
  have S3 := S2.trans s2
  go_wp2_with fail
  refine (noNaN_no x3 n c3 f3 _ hn (S3.row HR.out.2.2.2.1) hN).mono ?_
  rintro e W4 ⟨rfl, s3⟩
  have S4 := S3.trans s3
  go_wp2
  go_ret
  exact ⟨rfl, S4.1⟩

set_option maxHeartbeats 1000000 in
theorem nan4 (x0 x1 x2 x3 x4 : Addr) (n c0 c1 c2 c3 c4 : Nat) (f0 f1 f2 f3 f4 : Nat → Nat) (w : World) (h8 : 40 * n ≤ 1048576) (hr : FRow w x0 n f0 ∧ FRow w x1 n f1 ∧ FRow w x2 n f2 ∧ FRow w x3 n f3 ∧ FRow w x4 n f4) (hN : ¬ NN f4 n) (m0 : NN f0 n) (m1 : NN f1 n) (m2 : NN f2 n) (m3 : NN f3 n) :
    Calls Try.prog 9 #[.slice (some x0) n c0, .slice (some x1) n c1, .slice (some x2) n c2, .slice (some x3) n c3, .slice (some x4) n c4] w fun e w' => e = .returned (.bool true) ∧ Below w.heap.size w w' := by
  have h : n + n + n + n + n ≤ 1048576 := by omega
  have hn : n ≤ 1048576 := by omega
  have HR : Hid (FRow w x0 n f0 ∧ FRow w x1 n f1 ∧ FRow w x2 n f2 ∧ FRow w x3 n f3 ∧ FRow w x4 n f4) := hr
  clear hr
  have d : decide ((1048576 : Int) < (n : Int)) = false := decide_eq_false (by omega)
  have e0 : ((n : Int) != (n : Int)) = false := by simp
  have S0 := Same.refl w
  go_enter Try.func9, Try.ntmps9
  go_wp2_with (go_at_call 24; refine (bytes_yes _ _ _ _ _ _ _ _ _ _ _ _ _ _ _ _ h).mono ?_; rintro e w' ⟨rfl, rfl⟩)
  refine (noNaN_yes x0 n c0 f0 _ hn (S0.row HR.out.1) m0).mono ?_
  rintro e W1 ⟨rfl, s0⟩
  have S1 := S0.trans s0
  go_wp2_with fail
  refine (noNaN_yes x1 n c1 f1 _ hn (S1.row HR.out.2.1) m1).mono ?_
  rintro e W2 ⟨rfl, s1⟩
  have S2 := S1.trans s1
  go_wp2_with fail
  refine (noNaN_yes x2 n c2 f2 _ hn (S2.row HR.out.2.2.1) m2).mono ?_
  rintro e W3 ⟨rfl, s2⟩
  have S3 := S2.trans s2
  go_wp2_with fail
  refine (noNaN_yes x3 n c3 f3 _ hn (S3.row HR.out.2.2.2.1) m3).mono ?_
  rintro e W4 ⟨rfl, s3⟩
  have S4 := S3.trans s3
  go_wp2_with fail
  refine (noNaN_no x4 n c4 f4 _ hn (S4.row HR.out.2.2.2.2) hN).mono ?_
  rintro e W5 ⟨rfl, s4⟩
  have S5 := S4.trans s4
  go_wp2
  go_ret
  exact ⟨rfl, S5.1⟩

set_option maxHeartbeats 2000000 in
theorem main_tt (x0 x1 x2 x3 x4 : Addr) (n c0 c1 c2 c3 c4 : Nat) (f0 f1 f2 f3 f4 : Nat → Nat) (w : World) (h8 : 40 * n ≤ 1048576) (hr : FRow w x0 n f0 ∧ FRow w x1 n f1 ∧ FRow w x2 n f2 ∧ FRow w x3 n f3 ∧ FRow w x4 n f4) (hN : NN f0 n ∧ NN f1 n ∧ NN f2 n ∧ NN f3 n ∧ NN f4 n) (hA : Hold f0 f1 f4 n) (hB : Hold f2 f3 f4 n) :
    Calls Try.prog 9 #[.slice (some x0) n c0, .slice (some x1) n c1, .slice (some x2) n c2, .slice (some x3) n c3, .slice (some x4) n c4] w fun e w' => e = .returned (.bool true) ∧ Below w.heap.size w w' := by
  have h : n + n + n + n + n ≤ 1048576 := by omega
  have hn : n ≤ 1048576 := by omega
  have HN : Hid (NN f0 n ∧ NN f1 n ∧ NN f2 n ∧ NN f3 n ∧ NN f4 n) := hN
  have en : ((n : Int) == (n : Int)) = true := by simp
  clear hN
  have HA : Hid (Hold f0 f1 f4 n) := hA
  have HB : Hid (Hold f2 f3 f4 n) := hB
  clear hA hB
  have HR : Hid (FRow w x0 n f0 ∧ FRow w x1 n f1 ∧ FRow w x2 n f2 ∧ FRow w x3 n f3 ∧ FRow w x4 n f4) := hr
  clear hr
  have d : decide ((1048576 : Int) < (n : Int)) = false := decide_eq_false (by omega)
  have e0 : ((n : Int) != (n : Int)) = false := by simp
  have S0 := Same.refl w
  go_enter Try.func9, Try.ntmps9
  go_wp2_with (go_at_call 24; refine (bytes_yes _ _ _ _ _ _ _ _ _ _ _ _ _ _ _ _ h).mono ?_; rintro e w' ⟨rfl, rfl⟩)
  refine (noNaN_yes x0 n c0 f0 _ hn (S0.row HR.out.1) HN.out.1).mono ?_
  rintro e W1 ⟨rfl, s0⟩
  have S1 := S0.trans s0
  go_wp2_with fail
  refine (noNaN_yes x1 n c1 f1 _ hn (S1.row HR.out.2.1) HN.out.2.1).mono ?_
  rintro e W2 ⟨rfl, s1⟩
  have S2 := S1.trans s1
  go_wp2_with fail
  refine (noNaN_yes x2 n c2 f2 _ hn (S2.row HR.out.2.2.1) HN.out.2.2.1).mono ?_
  rintro e W3 ⟨rfl, s2⟩
  have S3 := S2.trans s2
  go_wp2_with fail
  refine (noNaN_yes x3 n c3 f3 _ hn (S3.row HR.out.2.2.2.1) HN.out.2.2.2.1).mono ?_
  rintro e W4 ⟨rfl, s3⟩
  have S4 := S3.trans s3
  go_wp2_with fail
  refine (noNaN_yes x4 n c4 f4 _ hn (S4.row HR.out.2.2.2.2) HN.out.2.2.2.2).mono ?_
  rintro e W5 ⟨rfl, s4⟩
  have S5 := S4.trans s4
  go_wp2_with fail
  have T0 : Hid (FRow W5 x0 n f0 ∧ FRow W5 x1 n f1 ∧ FRow W5 x2 n f2 ∧ FRow W5 x3 n f3 ∧ FRow W5 x4 n f4) := ⟨S5.row HR.out.1, S5.row HR.out.2.1, S5.row HR.out.2.2.1, S5.row HR.out.2.2.2.1, S5.row HR.out.2.2.2.2⟩
  have B0 : Hid (Below w.heap.size w W5) := S5.1
  clear S0 S1 S2 S3 S4 S5 s0 s1 s2 s3 s4 HR
  refine (clone_ex x0 n c0 f0 _ hn T0.out.1).mono ?_
  rintro e W6 ⟨y0, rfl, hb0, hr0⟩
  have B1 : Hid (Below w.heap.size w W6) := B0.out.trans (hb0.mono B0.out.size)
  have T1 : Hid (FRow W6 x0 n f0 ∧ FRow W6 x1 n f1 ∧ FRow W6 x2 n f2 ∧ FRow W6 x3 n f3 ∧ FRow W6 x4 n f4) := ⟨T0.out.1.below hb0, T0.out.2.1.below hb0, T0.out.2.2.1.below hb0, T0.out.2.2.2.1.below hb0, T0.out.2.2.2.2.below hb0⟩
  have Y1 : Hid (FRow W6 y0 n f0) := hr0
  clear hb0 hr0 T0 B0
  go_wp2_with fail
  refine (clone_ex x1 n c1 f1 _ hn T1.out.2.1).mono ?_
  rintro e W7 ⟨y1, rfl, hb1, hr1⟩
  have B2 : Hid (Below w.heap.size w W7) := B1.out.trans (hb1.mono B1.out.size)
  have T2 : Hid (FRow W7 x0 n f0 ∧ FRow W7 x1 n f1 ∧ FRow W7 x2 n f2 ∧ FRow W7 x3 n f3 ∧ FRow W7 x4 n f4) := ⟨T1.out.1.below hb1, T1.out.2.1.below hb1, T1.out.2.2.1.below hb1, T1.out.2.2.2.1.below hb1, T1.out.2.2.2.2.below hb1⟩
  have Y2 : Hid (FRow W7 y0 n f0 ∧ FRow W7 y1 n f1) := ⟨(Y1.out).below hb1, hr1⟩
  clear hb1 hr1 T1 B1 Y1
  go_wp2_with fail
  refine (clone_ex x2 n c2 f2 _ hn T2.out.2.2.1).mono ?_
  rintro e W8 ⟨y2, rfl, hb2, hr2⟩
  have B3 : Hid (Below w.heap.size w W8) := B2.out.trans (hb2.mono B2.out.size)
  have T3 : Hid (FRow W8 x0 n f0 ∧ FRow W8 x1 n f1 ∧ FRow W8 x2 n f2 ∧ FRow W8 x3 n f3 ∧ FRow W8 x4 n f4) := ⟨T2.out.1.below hb2, T2.out.2.1.below hb2, T2.out.2.2.1.below hb2, T2.out.2.2.2.1.below hb2, T2.out.2.2.2.2.below hb2⟩
  have Y3 : Hid (FRow W8 y0 n f0 ∧ FRow W8 y1 n f1 ∧ FRow W8 y2 n f2) := ⟨(Y2.out.1).below hb2, (Y2.out.2).below hb2, hr2⟩
  clear hb2 hr2 T2 B2 Y2
  go_wp2_with fail
  refine (clone_ex x3 n c3 f3 _ hn T3.out.2.2.2.1).mono ?_
  rintro e W9 ⟨y3, rfl, hb3, hr3⟩
  have B4 : Hid (Below w.heap.size w W9) := B3.out.trans (hb3.mono B3.out.size)
  have T4 : Hid (FRow W9 x0 n f0 ∧ FRow W9 x1 n f1 ∧ FRow W9 x2 n f2 ∧ FRow W9 x3 n f3 ∧ FRow W9 x4 n f4) := ⟨T3.out.1.below hb3, T3.out.2.1.below hb3, T3.out.2.2.1.below hb3, T3.out.2.2.2.1.below hb3, T3.out.2.2.2.2.below hb3⟩
  have Y4 : Hid (FRow W9 y0 n f0 ∧ FRow W9 y1 n f1 ∧ FRow W9 y2 n f2 ∧ FRow W9 y3 n f3) := ⟨(Y3.out.1).below hb3, (Y3.out.2.1).below hb3, (Y3.out.2.2).below hb3, hr3⟩
  clear hb3 hr3 T3 B3 Y3
  go_wp2_with fail
  refine (clone_ex x4 n c4 f4 _ hn T4.out.2.2.2.2).mono ?_
  rintro e W10 ⟨y4, rfl, hb4, hr4⟩
  have B5 : Hid (Below w.heap.size w W10) := B4.out.trans (hb4.mono B4.out.size)
  have T5 : Hid (FRow W10 x0 n f0 ∧ FRow W10 x1 n f1 ∧ FRow W10 x2 n f2 ∧ FRow W10 x3 n f3 ∧ FRow W10 x4 n f4) := ⟨T4.out.1.below hb4, T4.out.2.1.below hb4, T4.out.2.2.1.below hb4, T4.out.2.2.2.1.below hb4, T4.out.2.2.2.2.below hb4⟩
  have Y5 : Hid (FRow W10 y0 n f0 ∧ FRow W10 y1 n f1 ∧ FRow W10 y2 n f2 ∧ FRow W10 y3 n f3 ∧ FRow W10 y4 n f4) := ⟨(Y4.out.1).below hb4, (Y4.out.2.1).below hb4, (Y4.out.2.2.1).below hb4, (Y4.out.2.2.2).below hb4, hr4⟩
  clear hb4 hr4 T4 B4 Y4
  go_wp2_with fail
  refine (parent_yes y0 y1 y2 y3 y4 n n n n n n f0 f1 f2 f3 f4 _ hn Y5.out.1 Y5.out.2.1 Y5.out.2.2.1 Y5.out.2.2.2.1 Y5.out.2.2.2.2 HN.out.1 HN.out.2.1 HN.out.2.2.1 HN.out.2.2.2.1 HN.out.2.2.2.2 ⟨HA.out, HB.out⟩).mono ?_
  rintro e W11 ⟨⟨p1, k1, p2, k2, rfl⟩, hb⟩
  have B6 : Hid (Below w.heap.size w W11) := B5.out.trans (hb.mono B5.out.size)
  have Y6 : Hid (FRow W11 y0 n f0 ∧ FRow W11 y1 n f1 ∧ FRow W11 y2 n f2 ∧ FRow W11 y3 n f3 ∧ FRow W11 y4 n f4) := ⟨Y5.out.1.below hb, Y5.out.2.1.below hb, Y5.out.2.2.1.below hb, Y5.out.2.2.2.1.below hb, (Y5.out.2.2.2.2).below hb⟩
  clear hb B5 Y5 T5
  go_wp2_with fail
  refine (holds_yes y0 y1 y4 n n n n f0 f1 f4 _ hn Y6.out.1 Y6.out.2.1 Y6.out.2.2.2.2 HA.out).mono ?_
  rintro e W12 ⟨rfl, s1⟩
  go_wp2_with fail
  refine (holds_yes y2 y3 y4 n n n n f2 f3 f4 _ hn (s1.row Y6.out.2.2.1) (s1.row Y6.out.2.2.2.1) (s1.row Y6.out.2.2.2.2) HB.out).mono ?_
  rintro e W13 ⟨rfl, s2⟩
  have B7 : Hid (Below w.heap.size w W13) := B6.out.trans ((s1.trans s2).1.mono B6.out.size)
  go_wp2
  go_ret
  exact ⟨rfl, B7.out⟩

set_option maxHeartbeats 2000000 in
theorem main_tf (x0 x1 x2 x3 x4 : Addr) (n c0 c1 c2 c3 c4 : Nat) (f0 f1 f2 f3 f4 : Nat → Nat) (w : World) (h8 : 40 * n ≤ 1048576) (hr : FRow w x0 n f0 ∧ FRow w x1 n f1 ∧ FRow w x2 n f2 ∧ FRow w x3 n f3 ∧ FRow w x4 n f4) (hN : NN f0 n ∧ NN f1 n ∧ NN f2 n ∧ NN f3 n ∧ NN f4 n) (hA : Hold f0 f1 f4 n) (hB : ¬ Hold f2 f3 f4 n) :
    Calls Try.prog 9 #[.slice (some x0) n c0, .slice (some x1) n c1, .slice (some x2) n c2, .slice (some x3) n c3, .slice (some x4) n c4] w fun e w' => e = .returned (.bool true) ∧ Below w.heap.size w w' := by
  have h : n + n + n + n + n ≤ 1048576 := by omega
  have hn : n ≤ 1048576 := by omega
  have HN : Hid (NN f0 n ∧ NN f1 n ∧ NN f2 n ∧ NN f3 n ∧ NN f4 n) := hN
  have en : ((n : Int) == (n : Int)) = true := by simp
  clear hN
  have HA : Hid (Hold f0 f1 f4 n) := hA
  have HB : Hid (¬ Hold f2 f3 f4 n) := hB
  clear hA hB
  have HR : Hid (FRow w x0 n f0 ∧ FRow w x1 n f1 ∧ FRow w x2 n f2 ∧ FRow w x3 n f3 ∧ FRow w x4 n f4) := hr
  clear hr
  have d : decide ((1048576 : Int) < (n : Int)) = false := decide_eq_false (by omega)
  have e0 : ((n : Int) != (n : Int)) = false := by simp
  have S0 := Same.refl w
  go_enter Try.func9, Try.ntmps9
  go_wp2_with (go_at_call 24; refine (bytes_yes _ _ _ _ _ _ _ _ _ _ _ _ _ _ _ _ h).mono ?_; rintro e w' ⟨rfl, rfl⟩)
  refine (noNaN_yes x0 n c0 f0 _ hn (S0.row HR.out.1) HN.out.1).mono ?_
  rintro e W1 ⟨rfl, s0⟩
  have S1 := S0.trans s0
  go_wp2_with fail
  refine (noNaN_yes x1 n c1 f1 _ hn (S1.row HR.out.2.1) HN.out.2.1).mono ?_
  rintro e W2 ⟨rfl, s1⟩
  have S2 := S1.trans s1
  go_wp2_with fail
  refine (noNaN_yes x2 n c2 f2 _ hn (S2.row HR.out.2.2.1) HN.out.2.2.1).mono ?_
  rintro e W3 ⟨rfl, s2⟩
  have S3 := S2.trans s2
  go_wp2_with fail
  refine (noNaN_yes x3 n c3 f3 _ hn (S3.row HR.out.2.2.2.1) HN.out.2.2.2.1).mono ?_
  rintro e W4 ⟨rfl, s3⟩
  have S4 := S3.trans s3
  go_wp2_with fail
  refine (noNaN_yes x4 n c4 f4 _ hn (S4.row HR.out.2.2.2.2) HN.out.2.2.2.2).mono ?_
  rintro e W5 ⟨rfl, s4⟩
  have S5 := S4.trans s4
  go_wp2_with fail
  have T0 : Hid (FRow W5 x0 n f0 ∧ FRow W5 x1 n f1 ∧ FRow W5 x2 n f2 ∧ FRow W5 x3 n f3 ∧ FRow W5 x4 n f4) := ⟨S5.row HR.out.1, S5.row HR.out.2.1, S5.row HR.out.2.2.1, S5.row HR.out.2.2.2.1, S5.row HR.out.2.2.2.2⟩
  have B0 : Hid (Below w.heap.size w W5) := S5.1
  clear S0 S1 S2 S3 S4 S5 s0 s1 s2 s3 s4 HR
  refine (clone_ex x0 n c0 f0 _ hn T0.out.1).mono ?_
  rintro e W6 ⟨y0, rfl, hb0, hr0⟩
  have B1 : Hid (Below w.heap.size w W6) := B0.out.trans (hb0.mono B0.out.size)
  have T1 : Hid (FRow W6 x0 n f0 ∧ FRow W6 x1 n f1 ∧ FRow W6 x2 n f2 ∧ FRow W6 x3 n f3 ∧ FRow W6 x4 n f4) := ⟨T0.out.1.below hb0, T0.out.2.1.below hb0, T0.out.2.2.1.below hb0, T0.out.2.2.2.1.below hb0, T0.out.2.2.2.2.below hb0⟩
  have Y1 : Hid (FRow W6 y0 n f0) := hr0
  clear hb0 hr0 T0 B0
  go_wp2_with fail
  refine (clone_ex x1 n c1 f1 _ hn T1.out.2.1).mono ?_
  rintro e W7 ⟨y1, rfl, hb1, hr1⟩
  have B2 : Hid (Below w.heap.size w W7) := B1.out.trans (hb1.mono B1.out.size)
  have T2 : Hid (FRow W7 x0 n f0 ∧ FRow W7 x1 n f1 ∧ FRow W7 x2 n f2 ∧ FRow W7 x3 n f3 ∧ FRow W7 x4 n f4) := ⟨T1.out.1.below hb1, T1.out.2.1.below hb1, T1.out.2.2.1.below hb1, T1.out.2.2.2.1.below hb1, T1.out.2.2.2.2.below hb1⟩
  have Y2 : Hid (FRow W7 y0 n f0 ∧ FRow W7 y1 n f1) := ⟨(Y1.out).below hb1, hr1⟩
  clear hb1 hr1 T1 B1 Y1
  go_wp2_with fail
  refine (clone_ex x2 n c2 f2 _ hn T2.out.2.2.1).mono ?_
  rintro e W8 ⟨y2, rfl, hb2, hr2⟩
  have B3 : Hid (Below w.heap.size w W8) := B2.out.trans (hb2.mono B2.out.size)
  have T3 : Hid (FRow W8 x0 n f0 ∧ FRow W8 x1 n f1 ∧ FRow W8 x2 n f2 ∧ FRow W8 x3 n f3 ∧ FRow W8 x4 n f4) := ⟨T2.out.1.below hb2, T2.out.2.1.below hb2, T2.out.2.2.1.below hb2, T2.out.2.2.2.1.below hb2, T2.out.2.2.2.2.below hb2⟩
  have Y3 : Hid (FRow W8 y0 n f0 ∧ FRow W8 y1 n f1 ∧ FRow W8 y2 n f2) := ⟨(Y2.out.1).below hb2, (Y2.out.2).below hb2, hr2⟩
  clear hb2 hr2 T2 B2 Y2
  go_wp2_with fail
  refine (clone_ex x3 n c3 f3 _ hn T3.out.2.2.2.1).mono ?_
  rintro e W9 ⟨y3, rfl, hb3, hr3⟩
  have B4 : Hid (Below w.heap.size w W9) := B3.out.trans (hb3.mono B3.out.size)
  have T4 : Hid (FRow W9 x0 n f0 ∧ FRow W9 x1 n f1 ∧ FRow W9 x2 n f2 ∧ FRow W9 x3 n f3 ∧ FRow W9 x4 n f4) := ⟨T3.out.1.below hb3, T3.out.2.1.below hb3, T3.out.2.2.1.below hb3, T3.out.2.2.2.1.below hb3, T3.out.2.2.2.2.below hb3⟩
  have Y4 : Hid (FRow W9 y0 n f0 ∧ FRow W9 y1 n f1 ∧ FRow W9 y2 n f2 ∧ FRow W9 y3 n f3) := ⟨(Y3.out.1).below hb3, (Y3.out.2.1).below hb3, (Y3.out.2.2).below hb3, hr3⟩
  clear hb3 hr3 T3 B3 Y3
  go_wp2_with fail
  refine (clone_ex x4 n c4 f4 _ hn T4.out.2.2.2.2).mono ?_
  rintro e W10 ⟨y4, rfl, hb4, hr4⟩
  have B5 : Hid (Below w.heap.size w W10) := B4.out.trans (hb4.mono B4.out.size)
  have T5 : Hid (FRow W10 x0 n f0 ∧ FRow W10 x1 n f1 ∧ FRow W10 x2 n f2 ∧ FRow W10 x3 n f3 ∧ FRow W10 x4 n f4) := ⟨T4.out.1.below hb4, T4.out.2.1.below hb4, T4.out.2.2.1.below hb4, T4.out.2.2.2.1.below hb4, T4.out.2.2.2.2.below hb4⟩
  have Y5 : Hid (FRow W10 y0 n f0 ∧ FRow W10 y1 n f1 ∧ FRow W10 y2 n f2 ∧ FRow W10 y3 n f3 ∧ FRow W10 y4 n f4) := ⟨(Y4.out.1).below hb4, (Y4.out.2.1).below hb4, (Y4.out.2.2.1).below hb4, (Y4.out.2.2.2).below hb4, hr4⟩
  clear hb4 hr4 T4 B4 Y4
  go_wp2_with fail
  refine (parent_no y0 y1 y2 y3 y4 n n n n n n f0 f1 f2 f3 f4 _ hn Y5.out.1 Y5.out.2.1 Y5.out.2.2.1 Y5.out.2.2.2.1 Y5.out.2.2.2.2 HN.out.1 HN.out.2.1 HN.out.2.2.1 HN.out.2.2.2.1 HN.out.2.2.2.2 (fun h => HB.out h.2)).mono ?_
  rintro e W11 ⟨⟨p1, k1, p2, k2, rfl⟩, hb⟩
  have B6 : Hid (Below w.heap.size w W11) := B5.out.trans (hb.mono B5.out.size)
  have Y6 : Hid (FRow W11 y0 n f0 ∧ FRow W11 y1 n f1 ∧ FRow W11 y2 n f2 ∧ FRow W11 y3 n f3 ∧ FRow W11 y4 n f4) := ⟨Y5.out.1.below hb, Y5.out.2.1.below hb, Y5.out.2.2.1.below hb, Y5.out.2.2.2.1.below hb, (Y5.out.2.2.2.2).below hb⟩
  clear hb B5 Y5 T5
  go_wp2_with fail
  refine (holds_yes y0 y1 y4 n n n n f0 f1 f4 _ hn Y6.out.1 Y6.out.2.1 Y6.out.2.2.2.2 HA.out).mono ?_
  rintro e W12 ⟨rfl, s1⟩
  go_wp2_with fail
  refine (holds_no y2 y3 y4 n n n n f2 f3 f4 _ hn (s1.row Y6.out.2.2.1) (s1.row Y6.out.2.2.2.1) (s1.row Y6.out.2.2.2.2) HB.out).mono ?_
  rintro e W13 ⟨rfl, s2⟩
  have B7 : Hid (Below w.heap.size w W13) := B6.out.trans ((s1.trans s2).1.mono B6.out.size)
  go_wp2
  go_ret
  exact ⟨rfl, B7.out⟩

set_option maxHeartbeats 2000000 in
theorem main_ff (x0 x1 x2 x3 x4 : Addr) (n c0 c1 c2 c3 c4 : Nat) (f0 f1 f2 f3 f4 : Nat → Nat) (w : World) (h8 : 40 * n ≤ 1048576) (hr : FRow w x0 n f0 ∧ FRow w x1 n f1 ∧ FRow w x2 n f2 ∧ FRow w x3 n f3 ∧ FRow w x4 n f4) (hN : NN f0 n ∧ NN f1 n ∧ NN f2 n ∧ NN f3 n ∧ NN f4 n) (hA : ¬ Hold f0 f1 f4 n) :
    Calls Try.prog 9 #[.slice (some x0) n c0, .slice (some x1) n c1, .slice (some x2) n c2, .slice (some x3) n c3, .slice (some x4) n c4] w fun e w' => e = .returned (.bool true) ∧ Below w.heap.size w w' := by
  have h : n + n + n + n + n ≤ 1048576 := by omega
  have hn : n ≤ 1048576 := by omega
  have HN : Hid (NN f0 n ∧ NN f1 n ∧ NN f2 n ∧ NN f3 n ∧ NN f4 n) := hN
  have en : ((n : Int) == (n : Int)) = true := by simp
  clear hN
  have HA : Hid (¬ Hold f0 f1 f4 n) := hA
  clear hA
  have HR : Hid (FRow w x0 n f0 ∧ FRow w x1 n f1 ∧ FRow w x2 n f2 ∧ FRow w x3 n f3 ∧ FRow w x4 n f4) := hr
  clear hr
  have d : decide ((1048576 : Int) < (n : Int)) = false := decide_eq_false (by omega)
  have e0 : ((n : Int) != (n : Int)) = false := by simp
  have S0 := Same.refl w
  go_enter Try.func9, Try.ntmps9
  go_wp2_with (go_at_call 24; refine (bytes_yes _ _ _ _ _ _ _ _ _ _ _ _ _ _ _ _ h).mono ?_; rintro e w' ⟨rfl, rfl⟩)
  refine (noNaN_yes x0 n c0 f0 _ hn (S0.row HR.out.1) HN.out.1).mono ?_
  rintro e W1 ⟨rfl, s0⟩
  have S1 := S0.trans s0
  go_wp2_with fail
  refine (noNaN_yes x1 n c1 f1 _ hn (S1.row HR.out.2.1) HN.out.2.1).mono ?_
  rintro e W2 ⟨rfl, s1⟩
  have S2 := S1.trans s1
  go_wp2_with fail
  refine (noNaN_yes x2 n c2 f2 _ hn (S2.row HR.out.2.2.1) HN.out.2.2.1).mono ?_
  rintro e W3 ⟨rfl, s2⟩
  have S3 := S2.trans s2
  go_wp2_with fail
  refine (noNaN_yes x3 n c3 f3 _ hn (S3.row HR.out.2.2.2.1) HN.out.2.2.2.1).mono ?_
  rintro e W4 ⟨rfl, s3⟩
  have S4 := S3.trans s3
  go_wp2_with fail
  refine (noNaN_yes x4 n c4 f4 _ hn (S4.row HR.out.2.2.2.2) HN.out.2.2.2.2).mono ?_
  rintro e W5 ⟨rfl, s4⟩
  have S5 := S4.trans s4
  go_wp2_with fail
  have T0 : Hid (FRow W5 x0 n f0 ∧ FRow W5 x1 n f1 ∧ FRow W5 x2 n f2 ∧ FRow W5 x3 n f3 ∧ FRow W5 x4 n f4) := ⟨S5.row HR.out.1, S5.row HR.out.2.1, S5.row HR.out.2.2.1, S5.row HR.out.2.2.2.1, S5.row HR.out.2.2.2.2⟩
  have B0 : Hid (Below w.heap.size w W5) := S5.1
  clear S0 S1 S2 S3 S4 S5 s0 s1 s2 s3 s4 HR
  refine (clone_ex x0 n c0 f0 _ hn T0.out.1).mono ?_
  rintro e W6 ⟨y0, rfl, hb0, hr0⟩
  have B1 : Hid (Below w.heap.size w W6) := B0.out.trans (hb0.mono B0.out.size)
  have T1 : Hid (FRow W6 x0 n f0 ∧ FRow W6 x1 n f1 ∧ FRow W6 x2 n f2 ∧ FRow W6 x3 n f3 ∧ FRow W6 x4 n f4) := ⟨T0.out.1.below hb0, T0.out.2.1.below hb0, T0.out.2.2.1.below hb0, T0.out.2.2.2.1.below hb0, T0.out.2.2.2.2.below hb0⟩
  have Y1 : Hid (FRow W6 y0 n f0) := hr0
  clear hb0 hr0 T0 B0
  go_wp2_with fail
  refine (clone_ex x1 n c1 f1 _ hn T1.out.2.1).mono ?_
  rintro e W7 ⟨y1, rfl, hb1, hr1⟩
  have B2 : Hid (Below w.heap.size w W7) := B1.out.trans (hb1.mono B1.out.size)
  have T2 : Hid (FRow W7 x0 n f0 ∧ FRow W7 x1 n f1 ∧ FRow W7 x2 n f2 ∧ FRow W7 x3 n f3 ∧ FRow W7 x4 n f4) := ⟨T1.out.1.below hb1, T1.out.2.1.below hb1, T1.out.2.2.1.below hb1, T1.out.2.2.2.1.below hb1, T1.out.2.2.2.2.below hb1⟩
  have Y2 : Hid (FRow W7 y0 n f0 ∧ FRow W7 y1 n f1) := ⟨(Y1.out).below hb1, hr1⟩
  clear hb1 hr1 T1 B1 Y1
  go_wp2_with fail
  refine (clone_ex x2 n c2 f2 _ hn T2.out.2.2.1).mono ?_
  rintro e W8 ⟨y2, rfl, hb2, hr2⟩
  have B3 : Hid (Below w.heap.size w W8) := B2.out.trans (hb2.mono B2.out.size)
  have T3 : Hid (FRow W8 x0 n f0 ∧ FRow W8 x1 n f1 ∧ FRow W8 x2 n f2 ∧ FRow W8 x3 n f3 ∧ FRow W8 x4 n f4) := ⟨T2.out.1.below hb2, T2.out.2.1.below hb2, T2.out.2.2.1.below hb2, T2.out.2.2.2.1.below hb2, T2.out.2.2.2.2.below hb2⟩
  have Y3 : Hid (FRow W8 y0 n f0 ∧ FRow W8 y1 n f1 ∧ FRow W8 y2 n f2) := ⟨(Y2.out.1).below hb2, (Y2.out.2).below hb2, hr2⟩
  clear hb2 hr2 T2 B2 Y2
  go_wp2_with fail
  refine (clone_ex x3 n c3 f3 _ hn T3.out.2.2.2.1).mono ?_
  rintro e W9 ⟨y3, rfl, hb3, hr3⟩
  have B4 : Hid (Below w.heap.size w W9) := B3.out.trans (hb3.mono B3.out.size)
  have T4 : Hid (FRow W9 x0 n f0 ∧ FRow W9 x1 n f1 ∧ FRow W9 x2 n f2 ∧ FRow W9 x3 n f3 ∧ FRow W9 x4 n f4) := ⟨T3.out.1.below hb3, T3.out.2.1.below hb3, T3.out.2.2.1.below hb3, T3.out.2.2.2.1.below hb3, T3.out.2.2.2.2.below hb3⟩
  have Y4 : Hid (FRow W9 y0 n f0 ∧ FRow W9 y1 n f1 ∧ FRow W9 y2 n f2 ∧ FRow W9 y3 n f3) := ⟨(Y3.out.1).below hb3, (Y3.out.2.1).below hb3, (Y3.out.2.2).below hb3, hr3⟩
  clear hb3 hr3 T3 B3 Y3
  go_wp2_with fail
  refine (clone_ex x4 n c4 f4 _ hn T4.out.2.2.2.2).mono ?_
  rintro e W10 ⟨y4, rfl, hb4, hr4⟩
  have B5 : Hid (Below w.heap.size w W10) := B4.out.trans (hb4.mono B4.out.size)
  have T5 : Hid (FRow W10 x0 n f0 ∧ FRow W10 x1 n f1 ∧ FRow W10 x2 n f2 ∧ FRow W10 x3 n f3 ∧ FRow W10 x4 n f4) := ⟨T4.out.1.below hb4, T4.out.2.1.below hb4, T4.out.2.2.1.below hb4, T4.out.2.2.2.1.below hb4, T4.out.2.2.2.2.below hb4⟩
  have Y5 : Hid (FRow W10 y0 n f0 ∧ FRow W10 y1 n f1 ∧ FRow W10 y2 n f2 ∧ FRow W10 y3 n f3 ∧ FRow W10 y4 n f4) := ⟨(Y4.out.1).below hb4, (Y4.out.2.1).below hb4, (Y4.out.2.2.1).below hb4, (Y4.out.2.2.2).below hb4, hr4⟩
  clear hb4 hr4 T4 B4 Y4
  go_wp2_with fail
  refine (parent_no y0 y1 y2 y3 y4 n n n n n n f0 f1 f2 f3 f4 _ hn Y5.out.1 Y5.out.2.1 Y5.out.2.2.1 Y5.out.2.2.2.1 Y5.out.2.2.2.2 HN.out.1 HN.out.2.1 HN.out.2.2.1 HN.out.2.2.2.1 HN.out.2.2.2.2 (fun h => HA.out h.1)).mono ?_
  rintro e W11 ⟨⟨p1, k1, p2, k2, rfl⟩, hb⟩
  have B6 : Hid (Below w.heap.size w W11) := B5.out.trans (hb.mono B5.out.size)
  have Y6 : Hid (FRow W11 y0 n f0 ∧ FRow W11 y1 n f1 ∧ FRow W11 y2 n f2 ∧ FRow W11 y3 n f3 ∧ FRow W11 y4 n f4) := ⟨Y5.out.1.below hb, Y5.out.2.1.below hb, Y5.out.2.2.1.below hb, Y5.out.2.2.2.1.below hb, (Y5.out.2.2.2.2).below hb⟩
  clear hb B5 Y5 T5
  go_wp2_with fail
  refine (holds_no y0 y1 y4 n n n n f0 f1 f4 _ hn Y6.out.1 Y6.out.2.1 Y6.out.2.2.2.2 HA.out).mono ?_
  rintro e W12 ⟨rfl, s1⟩
  have B7 : Hid (Below w.heap.size w W12) := B6.out.trans (s1.1.mono B6.out.size)
  go_wp2
  go_ret
  exact ⟨rfl, B7.out⟩

end Go.Proofs.Qxb6600053a.fnParentOf

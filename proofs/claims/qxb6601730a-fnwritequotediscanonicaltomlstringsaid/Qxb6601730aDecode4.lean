/-
  The walk of zzDecodeRune at a head of four bytes.
-/
import Derived.Test.Qxb6601730aDecode
set_option linter.unusedVariables false
namespace Go.Proofs.Qxb6601730a
open Go.RowKit Go.Proofs.Qxb6601730a.Utf

set_option maxRecDepth 100000 in
theorem dec_four_cut (s : ByteArray) (i : Nat) (w : World) (hs : s.size ≤ 1099511627776) (hi : i < s.size) (hi2 : ¬ i + 3 < s.size) (b0 : Nat) (e0 : (s[i]'hi).toNat = b0) (h1 : 240 ≤ b0) (h2 : b0 ≤ 244) :
    Calls Try.prog 24 #[.string s, .int .i64 i] w fun e w' => e = .returned (.tuple #[.int .i64 1, .bool false]) ∧ w = w' := by
  have hd : decide ((s.size : Int) - (i : Int) < 4) = true := by simp; omega
  rcases (show b0 = 240 ∨ b0 = 244 ∨ (((b0 : Int) == 240) = false ∧ ((b0 : Int) == 244) = false) by simp; omega) with rfl | rfl | ⟨g1, g2⟩
  all_goals
    go_enter Try.func24, Try.ntmps24
    go_wp2_with (go_at_call 29; refine (cont_any _ _ _ _).mono ?_; rintro e w' ⟨rfl, rfl⟩)
    go_ret2
    exact ⟨rfl, rfl⟩
set_option maxRecDepth 100000 in
set_option maxHeartbeats 2000000 in
theorem dec_four (s : ByteArray) (i : Nat) (w : World) (hs : s.size ≤ 1099511627776) (hi : i + 3 < s.size) (b0 b1 b2 b3 : Nat) (e0 : (s[i]'(by omega)).toNat = b0) (e1 : (s[i + 1]'(by omega)).toNat = b1) (e2 : (s[i + 2]'(by omega)).toNat = b2) (e3 : (s[i + 3]'hi).toNat = b3) (h1 : 240 ≤ b0) (h2 : b0 ≤ 244) (k1 k2 k3 : Bool)
    (c1 : contB b1 (if b0 = 240 then 144 else 128) (if b0 = 244 then 143 else 191) = k1) (c2 : contB b2 128 191 = k2) (c3 : contB b3 128 191 = k3) :
    Calls Try.prog 24 #[.string s, .int .i64 i] w fun e w' => e = .returned (.tuple #[.int .i64 (if k1 && (k2 && k3) then 4 else 1), .bool (k1 && (k2 && k3))]) ∧ w = w' := by
  rcases (show b0 = 240 ∨ b0 = 244 ∨ (((b0 : Int) == 240) = false ∧ ((b0 : Int) == 244) = false ∧ ¬ b0 = 240 ∧ ¬ b0 = 244) by simp; omega) with rfl | rfl | ⟨g1, g2, g3, g4⟩
  · rw [if_pos rfl, if_neg (by omega)] at c1
    cases k1
    · have hx : (false && (k2 && k3)) = false := by simp
      rw [hx]
      clear c2 c3
      go_enter Try.func24, Try.ntmps24
      go_wp2_with (go_at_call 29; refine (cont_any _ _ _ _).mono ?_; rintro e w' ⟨rfl, rfl⟩)
      go_ret2
      exact ⟨rfl, rfl⟩
    · cases k2
      · have hx : (true && (false && k3)) = false := by simp
        rw [hx]
        clear c3
        go_enter Try.func24, Try.ntmps24
        go_wp2_with (go_at_call 29; refine (cont_any _ _ _ _).mono ?_; rintro e w' ⟨rfl, rfl⟩)
        go_ret2
        exact ⟨rfl, rfl⟩
      · cases k3
        all_goals
          go_enter Try.func24, Try.ntmps24
          go_wp2_with (go_at_call 29; refine (cont_any _ _ _ _).mono ?_; rintro e w' ⟨rfl, rfl⟩)
          go_ret2
          exact ⟨rfl, rfl⟩
  · rw [if_neg (by omega), if_pos rfl] at c1
    cases k1
    · have hx : (false && (k2 && k3)) = false := by simp
      rw [hx]
      clear c2 c3
      go_enter Try.func24, Try.ntmps24
      go_wp2_with (go_at_call 29; refine (cont_any _ _ _ _).mono ?_; rintro e w' ⟨rfl, rfl⟩)
      go_ret2
      exact ⟨rfl, rfl⟩
    · cases k2
      · have hx : (true && (false && k3)) = false := by simp
        rw [hx]
        clear c3
        go_enter Try.func24, Try.ntmps24
        go_wp2_with (go_at_call 29; refine (cont_any _ _ _ _).mono ?_; rintro e w' ⟨rfl, rfl⟩)
        go_ret2
        exact ⟨rfl, rfl⟩
      · cases k3
        all_goals
          go_enter Try.func24, Try.ntmps24
          go_wp2_with (go_at_call 29; refine (cont_any _ _ _ _).mono ?_; rintro e w' ⟨rfl, rfl⟩)
          go_ret2
          exact ⟨rfl, rfl⟩
  · rw [if_neg g3, if_neg g4] at c1
    clear g3 g4
    cases k1
    · have hx : (false && (k2 && k3)) = false := by simp
      rw [hx]
      clear c2 c3
      go_enter Try.func24, Try.ntmps24
      go_wp2_with (go_at_call 29; refine (cont_any _ _ _ _).mono ?_; rintro e w' ⟨rfl, rfl⟩)
      go_ret2
      exact ⟨rfl, rfl⟩
    · cases k2
      · have hx : (true && (false && k3)) = false := by simp
        rw [hx]
        clear c3
        go_enter Try.func24, Try.ntmps24
        go_wp2_with (go_at_call 29; refine (cont_any _ _ _ _).mono ?_; rintro e w' ⟨rfl, rfl⟩)
        go_ret2
        exact ⟨rfl, rfl⟩
      · cases k3
        all_goals
          go_enter Try.func24, Try.ntmps24
          go_wp2_with (go_at_call 29; refine (cont_any _ _ _ _).mono ?_; rintro e w' ⟨rfl, rfl⟩)
          go_ret2
          exact ⟨rfl, rfl⟩
end Go.Proofs.Qxb6601730a

/-
  The walk of hexValue: the digit's value, or -1.
-/
import Derived.Test.Qxb6000096aHexWalks
set_option linter.unusedVariables false
namespace Go.Proofs.Qxb6000096a
open Go.RowKit Go.Proofs.Qxb6000096a.Hex

/-- hv as the Go text tells it. -/
def hvI (c : Int) : Int := match hv c with | some d => (d : Int) | none => -1

theorem ch_hv {c : Int} {d : Nat} (h : hv c = some d) : c = (ch false d : Nat) ∨ c = (ch true d : Nat) := by
  unfold hv at h
  split at h
  · simp at h
    unfold ch
    rw [if_pos (by omega)]
    left
    omega
  · split at h
    · simp at h
      unfold ch
      rw [if_neg (by omega), if_neg (by simp)]
      left
      omega
    · split at h
      · simp at h
        right
        unfold ch
        rw [if_neg (by omega), if_pos rfl]
        omega
      · cases h

theorem no_step {c : Int} {k : Nat} (h : ∀ j, j < k → c ≠ (ch false j : Nat) ∧ c ≠ (ch true j : Nat)) (h1 : c ≠ (ch false k : Nat)) (h2 : c ≠ (ch true k : Nat)) :
    ∀ j, j < k + 1 → c ≠ (ch false j : Nat) ∧ c ≠ (ch true j : Nat) := fun j hj => by
  by_cases e : j = k
  · subst e; exact ⟨h1, h2⟩
  · exact h j (by omega)

set_option maxHeartbeats 2000000 in
set_option maxRecDepth 100000 in
theorem hexValue_any (c : Int) (w : World) (h0 : 0 ≤ c) (h1 : c ≤ 255) : Calls Try.prog 10 #[.int .u8 c] w fun e w' => e = .returned (.int .i64 (hvI c)) ∧ w = w' := by
  go_enter Try.func10, Try.ntmps10
  go_wp2
  go_loop [3] (fun i => ∃ k : Nat, k ≤ 16 ∧ i = .int .i64 k ∧ Hid (∀ j, j < k → c ≠ (ch false j : Nat) ∧ c ≠ (ch true j : Nat))) (fun i => 16 - (intOf i).toNat)
  case atStart => exact ⟨0, by omega, rfl, fun j hj => absurd hj (Nat.not_lt_zero _)⟩
  case round =>
    obtain ⟨k, hk, rfl, hno⟩ := hrel
    by_cases hlt : k < 16
    · have q1 : k < (⟨#[48, 49, 50, 51, 52, 53, 54, 55, 56, 57, 97, 98, 99, 100, 101, 102]⟩ : ByteArray).size := hlt
      have q2 : k < (⟨#[48, 49, 50, 51, 52, 53, 54, 55, 56, 57, 65, 66, 67, 68, 69, 70]⟩ : ByteArray).size := hlt
      have l1 := low_at k q1
      have l2 := up_at k q2
      by_cases e1 : c = (ch false k : Nat)
      · have HV : Hid (hvI c = k) := by show _ = _; unfold hvI; rw [e1, hv_ch false k hlt]
        have b1 : (c == ((ch false k : Nat) : Int)) = true := by rw [e1]; simp
        clear e1 hno
        go_wp2
        go_ret
        refine ⟨?_, rfl⟩
        rw [HV.out]
        rfl
      · have b1 : (c == ((ch false k : Nat) : Int)) = false := beq_eq_false_iff_ne.2 e1
        by_cases e2 : c = (ch true k : Nat)
        · have HV : Hid (hvI c = k) := by show _ = _; unfold hvI; rw [e2, hv_ch true k hlt]
          have b2 : (c == ((ch true k : Nat) : Int)) = true := by rw [e2]; simp
          clear e1 e2 hno
          go_wp2
          go_ret
          refine ⟨?_, rfl⟩
          rw [HV.out]
          rfl
        · have b2 : (c == ((ch true k : Nat) : Int)) = false := beq_eq_false_iff_ne.2 e2
          have HN : Hid (∀ j, j < k + 1 → c ≠ (ch false j : Nat) ∧ c ≠ (ch true j : Nat)) := no_step hno.out e1 e2
          clear e1 e2 hno
          go_wp2
          go_round
          case rel => exact ⟨k + 1, by omega, by go_num, HN⟩
          case measure => simp [intOf]; omega
    · have hk16 : k = 16 := by omega
      subst hk16
      have HV : Hid (hvI c = -1) := by
        show _ = _
        unfold hvI
        cases e : hv c with
        | none => rfl
        | some d =>
          have h2 := hno.out d (hv_lt e)
          rcases ch_hv e with h | h
          · exact absurd h h2.1
          · exact absurd h h2.2
      clear hno
      go_wp2
      go_ret
      refine ⟨?_, rfl⟩
      rw [HV.out]
      rfl

end Go.Proofs.Qxb6000096a

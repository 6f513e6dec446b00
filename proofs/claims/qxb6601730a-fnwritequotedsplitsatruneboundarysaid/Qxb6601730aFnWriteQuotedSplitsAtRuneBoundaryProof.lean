/-
  The proof of 'Rows.FnWriteQuotedSplitsAtRuneBoundarySaid': the walk of the law out of its callees' contracts, and the row's step.
-/
import Derived.Test.Qxb6601730aRows
import Derived.WalkKit
import Derived.ProofKit
import Derived.OpenShut
import Derived.ShutString
import Derived.ChangeOld
import Derived.Below
import Derived.WalkSpells
import Derived.WalkLawsBesides
import Derived.Deep.QuietTactic
import Derived.BigQuiet
import Derived.Lib.IndexBytes
import Derived.Test.Qxb6601730aWrite
import Derived.Test.Qxb6601730aValid
namespace Go.Proofs.Qxb6601730a.fnWriteQuotedSplitsAtRuneBoundary
open Go.ChangeShapes Go.WideShapes Go.ChangeAt Go.RowKit
open Go.ChangeMaps (open_string shut_string)
open Go.Proofs.Qxb6601730a.Utf
set_option linter.unusedVariables false      -- a walk need not use every 'w<i>' (that an integer argument fits its kind)

theorem own : ownKnob Try.prog.godebug = none := by kernel_rfl

/-! ### STEP 1: THE WALK -/
theorem bytes_yes (a b : ByteArray) (w : World) (h : a.size + b.size ≤ 1048576) :
    Calls Try.prog 11 #[.string a, .string b] w fun e w' => e = .returned (.bool true) ∧ w = w' := by
  go_enter Try.func11, Try.ntmps11
  go_wp2
  go_ret
  exact ⟨rfl, rfl⟩
theorem bytes_no (a b : ByteArray) (w : World) (h : ¬ a.size + b.size ≤ 1048576) (ha : a.size ≤ 9223372036854775807) (hb : b.size ≤ 9223372036854775807) :
    Calls Try.prog 11 #[.string a, .string b] w fun e w' => e = .returned (.bool false) ∧ w = w' := by
  by_cases h1 : 1048576 < a.size
  · go_enter Try.func11, Try.ntmps11
    go_wp2
    go_ret
    exact ⟨rfl, rfl⟩
  · by_cases h2 : 1048576 < b.size
    · go_enter Try.func11, Try.ntmps11
      go_wp2
      go_ret
      exact ⟨rfl, rfl⟩
    · go_enter Try.func11, Try.ntmps11
      go_wp2
      go_ret
      exact ⟨rfl, rfl⟩

/-- Quoting after nothing: some string, its bytes the quoted form. -/
theorem quoteEmpty (s : ByteArray) (w : World) (hs : s.size ≤ 1073741824) :
    Calls Try.prog 8 #[.string ⟨#[]⟩, .string s] w fun e w' => ∃ S : ByteArray, e = .returned (.string S) ∧ Hid (S.data.toList = quote s.data.toList) ∧ Below w.heap.size w w' :=
  (quoteAfter ⟨#[]⟩ s w (by show 0 ≤ _; omega) hs).mono fun e w' ⟨he, hb⟩ => ⟨_, he, by show _ = _; simp, hb⟩

theorem esc_len {l : List UInt8} (h : l ≠ []) : (esc l).length ≤ 6 * (zl l).1 := by
  have hw := zl_w h
  unfold esc
  split
  · split
    · unfold escB
      split
      · simp; omega
      · split
        · simp; omega
        · simp; omega
    · rw [List.length_take]; omega
  · simp; omega
theorem body_len : ∀ (n : Nat) (l : List UInt8), l.length ≤ n → (body l).length ≤ 6 * l.length
  | 0, l, h => by
    have : l = [] := List.eq_nil_of_length_eq_zero (by omega)
    subst this
    simp [body_nil]
  | n + 1, l, h => by
    by_cases e : l = []
    · subst e; simp [body_nil]
    · have hw := zl_w e
      have h1 := esc_len e
      have h2 := body_len n (l.drop (zl l).1) (by simp; omega)
      rw [List.length_drop] at h2
      rw [body_cons e, List.length_append]
      omega
theorem size_of {S s : ByteArray} (h : S.data.toList = quote s.data.toList) (hs : s.size ≤ 1073741824) : 2 ≤ S.size ∧ S.size ≤ 6 * s.size + 2 := by
  have h1 : S.data.toList.length = S.size := rfl
  have h2 : s.data.toList.length = s.size := rfl
  rw [h, quote_length] at h1
  have := body_len s.size s.data.toList (Nat.le_of_eq h2)
  omega

theorem split_eq {a b S L R : ByteArray} (hS : S.data.toList = quote (a ++ b).data.toList) (hL : L.data.toList = quote a.data.toList) (hR : R.data.toList = quote b.data.toList) (hg : good a.data.toList = true) :
    S = L.extract 0 (L.size - 1) ++ R.extract 1 R.size := by
  have eL : (L.extract 0 (L.size - 1)).data.toList = [34] ++ body a.data.toList := by
    have h1 : L.size = L.data.toList.length := rfl
    rw [Lib.extract_data, h1, hL]
    unfold quote
    simp
  have eR : (R.extract 1 R.size).data.toList = body b.data.toList ++ [34] := by
    rw [Lib.extract_to_end, hR]
    unfold quote
    simp
  have eab : (a ++ b).data.toList = a.data.toList ++ b.data.toList := by simp
  apply ByteArray.ext
  apply Array.ext'
  rw [ByteArray.data_append, Array.toList_append, eL, eR, hS, eab]
  unfold quote
  rw [body_append b.data.toList _ _ (Nat.le_refl _) hg]
  simp

set_option maxHeartbeats 1000000 in
set_option maxRecDepth 100000 in
theorem walk (a b : ByteArray) (w0 : a.size ≤ maxLen) (w1 : b.size ≤ maxLen) (w : World) :
    Calls Try.prog 4 #[.string a, .string b] w fun e w' => e = .returned (.bool true) ∧ Below w.heap.size w w' := by
  unfold maxLen at w0 w1
  by_cases h : a.size + b.size ≤ 1048576
  · by_cases h1 : 524288 < a.size
    · go_enter Try.func4, Try.ntmps4
      go_wp2_with (go_at_call 11; refine (bytes_yes _ _ _ h).mono ?_; rintro e w' ⟨rfl, rfl⟩)
      go_ret
      exact ⟨rfl, Below.refl _ _⟩
    have d1 : decide ((524288 : Int) < (a.size : Int)) = false := by simp; omega
    by_cases h2 : 524288 < b.size
    · go_enter Try.func4, Try.ntmps4
      go_wp2_with (go_at_call 11; refine (bytes_yes _ _ _ h).mono ?_; rintro e w' ⟨rfl, rfl⟩)
      go_ret
      exact ⟨rfl, Below.refl _ _⟩
    have d2 : decide ((524288 : Int) < (b.size : Int)) = false := by simp; omega
    cases hg : good a.data.toList
    · go_enter Try.func4, Try.ntmps4
      go_wp2_with (first | (go_at_call 11; refine (bytes_yes _ _ _ h).mono ?_; rintro e w' ⟨rfl, rfl⟩) | (go_at_call 12; refine (valid_any _ _ (by omega)).mono ?_; rintro e w' ⟨rfl, rfl⟩))
      go_ret
      exact ⟨rfl, Below.refl _ _⟩
    · go_enter Try.func4, Try.ntmps4
      go_wp2_with (first | (go_at_call 11; refine (bytes_yes _ _ _ h).mono ?_; rintro e w' ⟨rfl, rfl⟩) | (go_at_call 12; refine (valid_any _ _ (by omega)).mono ?_; rintro e w' ⟨rfl, rfl⟩))
      have hab : (a ++ b).size ≤ 1048576 := by rw [ByteArray.size_append]; exact h
      refine (quoteEmpty (a ++ b) _ (by omega)).mono ?_
      rintro e W1 ⟨S, rfl, hS, bS⟩
      have zS := size_of hS.out (by omega)
      go_wp2_with fail
      refine (quoteEmpty a _ (by omega)).mono ?_
      rintro e W2 ⟨L, rfl, hL, bL⟩
      have zL := size_of hL.out (by omega)
      go_wp2_with fail
      refine (quoteEmpty b _ (by omega)).mono ?_
      rintro e W3 ⟨R, rfl, hR, bR⟩
      have zR := size_of hR.out (by omega)
      have n1 : ((L.size : Int) == 0) = false := beq_eq_false_iff_ne.2 (by omega)
      have n2 : ((R.size : Int) == 0) = false := beq_eq_false_iff_ne.2 (by omega)
      have sL := bL.size
      have sS := bS.size
      go_wp2_with fail
      go_quiet (fail)
      go_wp2
      go_ret
      have heq := split_eq hS.out hL.out hR.out hg
      refine ⟨?_, below_drewN (((bS.trans (bL.mono sS)).trans (bR.mono (by omega)))) nq⟩
      show Ending.returned (Value.bool (S.toList == (L.extract 0 (L.size - 1) ++ R.extract 1 R.size).toList)) = _
      rw [← heq]
      simp
  · go_enter Try.func4, Try.ntmps4
    go_wp2_with (go_at_call 11; refine (bytes_no _ _ _ h w0 w1).mono ?_; rintro e w' ⟨rfl, rfl⟩)
    go_ret
    exact ⟨rfl, Below.refl _ _⟩

/-! ### THE ROW's STEP: WRITTEN OUT: LEAVE IT -/
set_option maxRecDepth 100000 in
theorem lifted (os : Os) (started : os.Started) (H : Type) (enc : TypeId × Value → H) :
    ReturnsInHanded {} Try.checked os 4 .any (Rows.fnWriteQuotedSplitsAtRuneBoundarySpec.pre6 enc Try.prog Try.f4 Rows.fnWriteQuotedSplitsAtRuneBoundaryRow.domain false) (Rows.fnWriteQuotedSplitsAtRuneBoundarySpec.post enc Try.prog Try.f4 false true false false) := by
  refine returnsInHanded_of_change (C := Try.checked) own started (by kernel_rfl) Try.func4
    (ChangeSpec.witness6 (enc := enc) (C := Try.checked) false ⟨#[], #[.string ByteArray.empty, .string ByteArray.empty], []⟩ 8 (by kernel_rfl) (by kernel_rfl) (by kernel_rfl) (by kernel_rfl)) ?_
  intro W base args ds gs before hval0 hW hcnd _
  have hval : ∀ (j : Nat) t v, Try.f4.params[j]? = some t → args[j]? = some v → Value.okWide Try.prog W .any base t v := hval0
  have hW' := hW
  obtain ⟨p, q, hA0, hV, rfl, hfz, hnd⟩ := hW
  have hA : DataW.TrodAll enc Try.prog W 0 (fun _ => true) true Try.f4.params.toList args.toList ds p := hA0
  rw [Try.params4] at hA hval
  obtain ⟨v0, vs0, d0, ds0, p0, q0, hargs, rfl, rfl, h0, r0⟩ := trodAll_cons hA
  obtain ⟨v1, vs1, d1, ds1, p1, q1, rfl, rfl, rfl, h1, r1⟩ := trodAll_cons r0
  obtain ⟨rfl, rfl, rfl⟩ := trodAll_nil r1
  obtain rfl : args = #[v0, v1] := by cases args; simp_all
  obtain ⟨rfl, rfl⟩ := trodVars_none hV
  obtain ⟨a0, rfl, rfl, rfl, w0⟩ := open_string Try.underlying9 (hval 0 9 v0 rfl rfl) h0
  obtain ⟨a1, rfl, rfl, rfl, w1⟩ := open_string Try.underlying9 (hval 1 9 v1 rfl rfl) h1
  clear hA0 hval0
  simp only [List.append_nil] at hW'
  refine (walk a0 a1 w0 w1 W).mono fun e W' ⟨he, hg⟩ => ?_
  subst he
  exact ⟨_, rfl, _, _, _, [], [], [], hW', trodAll_mk1 (shut_bool Try.underlying4 _), (trodAll_cons_mk (shut_string Try.underlying9 w0) (trodAll_cons_mk (shut_string Try.underlying9 w1) trodAll_mk0)), rfl, hg.frame _, fun h => by cases h⟩

theorem over : Rows.fnWriteQuotedSplitsAtRuneBoundaryRow.holds Try.pinned (OpenSpec.ofChange Rows.fnWriteQuotedSplitsAtRuneBoundarySpec) :=
  OpenClaim.holds_of_wide 4 Try.f4 rfl rfl rfl rfl rfl rfl rfl ⟨rfl, rfl, rfl, rfl, rfl⟩ rfl rfl rfl rfl rfl (by kernel_rfl) Try.func4 (by kernel_rfl)
    (of_decide_eq_true (by kernel_rfl)) (by unfold Func.isWrapper; first | (rw [if_pos (by decide +kernel)]; kernel_rfl) | (rw [if_neg (by decide +kernel)]; exact ⟨rfl, rfl⟩))
    (fun os started H enc _ => lifted os started H enc)

/-- ████ THE STATEMENT ████ -/
theorem proved : Rows.FnWriteQuotedSplitsAtRuneBoundarySaid :=
  over
end Go.Proofs.Qxb6601730a.fnWriteQuotedSplitsAtRuneBoundary

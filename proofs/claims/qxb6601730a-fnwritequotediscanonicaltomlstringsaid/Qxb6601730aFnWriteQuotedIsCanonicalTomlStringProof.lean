/-
  The proof of 'Rows.FnWriteQuotedIsCanonicalTomlStringSaid': the walk of the law out of its callees' contracts, and the row's step.
-/
import Derived.Test.Qxb6601730aRows
import Derived.WalkKit
import Derived.ProofKit
import Derived.OpenShut
import Derived.ShutString
import Derived.ChangeOld
import Derived.Below
import Derived.WalkSpells
import Derived.WalkLawsBesides
import Derived.Test.Qxb6601730aWrite
import Derived.Test.Qxb6601730aUnquote
namespace Go.Proofs.Qxb6601730a.fnWriteQuotedIsCanonicalTomlString
open Go.ChangeShapes Go.WideShapes Go.ChangeAt Go.RowKit
open Go.ChangeMaps (open_string shut_string)
open Go.Proofs.Qxb6601730a.Utf
set_option linter.unusedVariables false      -- a walk need not use every 'w<i>' (that an integer argument fits its kind)

theorem own : ownKnob Try.prog.godebug = none := by kernel_rfl

/-! ### STEP 1: THE WALK -/
theorem bytes_yes (a b : ByteArray) (w : World) (h : a.size + b.size ≤ 1048576) :
    Calls Try.prog 7 #[.string a, .string b] w fun e w' => e = .returned (.bool true) ∧ w = w' := by
  go_enter Try.func7, Try.ntmps7
  go_wp2
  go_ret
  exact ⟨rfl, rfl⟩
theorem bytes_no (a b : ByteArray) (w : World) (h : ¬ a.size + b.size ≤ 1048576) (ha : a.size ≤ 9223372036854775807) (hb : b.size ≤ 9223372036854775807) :
    Calls Try.prog 7 #[.string a, .string b] w fun e w' => e = .returned (.bool false) ∧ w = w' := by
  by_cases h1 : 1048576 < a.size
  · go_enter Try.func7, Try.ntmps7
    go_wp2
    go_ret
    exact ⟨rfl, rfl⟩
  · by_cases h2 : 1048576 < b.size
    · go_enter Try.func7, Try.ntmps7
      go_wp2
      go_ret
      exact ⟨rfl, rfl⟩
    · go_enter Try.func7, Try.ntmps7
      go_wp2
      go_ret
      exact ⟨rfl, rfl⟩

theorem esc_len {l : List UInt8} (h : l ≠ []) : (esc l).length ≤ 6 * (zl l).1 := by
  have hw := zl_w h
  unfold esc
  split
  · split
    · unfold escB
      split
      · simp; omega
      · split
        · simp; omega
        · simp; omega
    · rw [List.length_take]; omega
  · simp; omega
theorem body_len : ∀ (n : Nat) (l : List UInt8), l.length ≤ n → (body l).length ≤ 6 * l.length
  | 0, l, h => by
    have : l = [] := List.eq_nil_of_length_eq_zero (by omega)
    subst this
    simp [body_nil]
  | n + 1, l, h => by
    by_cases e : l = []
    · subst e; simp [body_nil]
    · have hw := zl_w e
      have h1 := esc_len e
      have h2 := body_len n (l.drop (zl l).1) (by simp; omega)
      rw [List.length_drop] at h2
      rw [body_cons e, List.length_append]
      omega

/-- What quoting after p gives: p stands at its head, the quoted form behind it. -/
theorem quoteShape (p s : ByteArray) (w : World) (hp : p.size ≤ 1048576) (hs : s.size ≤ 1048576) :
    Calls Try.prog 8 #[.string p, .string s] w fun e w' => ∃ S Q : ByteArray, e = .returned (.string S) ∧ S.extract 0 p.size = p ∧ S.extract p.size S.size = Q ∧ p.size ≤ S.size ∧ S.size ≤ 8388608 ∧ Hid (Q.data.toList = [34] ++ body s.data.toList ++ [34]) ∧ Hid (Q.size ≤ 1073741824) ∧ Below w.heap.size w w' := by
  refine (quoteAfter p s w (by omega) (by omega)).mono fun e w' ⟨he, hb⟩ => ?_
  have hl : (⟨(p.data.toList ++ quote s.data.toList).toArray⟩ : ByteArray).data.toList = p.data.toList ++ quote s.data.toList := by simp
  have hsz : (⟨(p.data.toList ++ quote s.data.toList).toArray⟩ : ByteArray).size = p.size + (quote s.data.toList).length := by
    show ((p.data.toList ++ quote s.data.toList).toArray).size = p.data.toList.length + _
    rw [List.size_toArray, List.length_append]
  have hbl := body_len s.size s.data.toList (Nat.le_refl _)
  have h1 : s.data.toList.length = s.size := rfl
  have h2 : p.data.toList.length = p.size := rfl
  have hql := quote_length s.data.toList
  generalize (⟨(p.data.toList ++ quote s.data.toList).toArray⟩ : ByteArray) = S at *
  have hQ : (S.extract p.size S.size).data.toList = [34] ++ body s.data.toList ++ [34] := by
    rw [Lib.extract_to_end, hl, ← h2, List.drop_left]
    rfl
  refine ⟨S, _, he, ?_, rfl, by omega, by omega, hQ, ?_, hb⟩
  · apply ByteArray.ext
    apply Array.ext'
    rw [Lib.extract_data, hl, ← h2]
    simp
  · have : (S.extract p.size S.size).size = (S.extract p.size S.size).data.toList.length := rfl
    show _ ≤ _
    rw [this, hQ]
    simp
    omega

set_option maxHeartbeats 1000000 in
set_option maxRecDepth 100000 in
theorem walk (a b : ByteArray) (w0 : a.size ≤ maxLen) (w1 : b.size ≤ maxLen) (w : World) :
    Calls Try.prog 3 #[.string a, .string b] w fun e w' => e = .returned (.bool true) ∧ Below w.heap.size w w' := by
  unfold maxLen at w0 w1
  by_cases h : a.size + b.size ≤ 1048576
  · by_cases h1 : 524288 < a.size
    · go_enter Try.func3, Try.ntmps3
      go_wp2_with (go_at_call 7; refine (bytes_yes _ _ _ h).mono ?_; rintro e w' ⟨rfl, rfl⟩)
      go_ret
      exact ⟨rfl, Below.refl _ _⟩
    have d1 : decide ((524288 : Int) < (a.size : Int)) = false := by simp; omega
    by_cases h2 : 524288 < b.size
    · go_enter Try.func3, Try.ntmps3
      go_wp2_with (go_at_call 7; refine (bytes_yes _ _ _ h).mono ?_; rintro e w' ⟨rfl, rfl⟩)
      go_ret
      exact ⟨rfl, Below.refl _ _⟩
    have d2 : decide ((524288 : Int) < (b.size : Int)) = false := by simp; omega
    go_enter Try.func3, Try.ntmps3
    go_wp2_with (go_at_call 7; refine (bytes_yes _ _ _ h).mono ?_; rintro e w' ⟨rfl, rfl⟩)
    refine (quoteShape a b _ (by omega) (by omega)).mono ?_
    rintro e W1 ⟨S, Q, rfl, hS1, hS2, hz1, hz2, HQ, HQS, bS⟩
    have sS := bS.size
    have d3 : decide ((S.size : Int) < (a.size : Int)) = false := decide_eq_false (by omega)
    go_wp2_with (fail)
    refine (unquote_quoted Q b.data.toList _ HQ.out HQS.out).mono ?_
    rintro e W2 ⟨rfl, b2⟩
    have s2 := b2.size
    go_wp2_with (fail)
    refine (sanitize_any b _ (by omega)).mono ?_
    rintro e W3 ⟨rfl, b3⟩
    go_wp2
    go_ret
    exact ⟨by simp, (bS.trans (b2.mono sS)).trans (b3.mono (by omega))⟩
  · go_enter Try.func3, Try.ntmps3
    go_wp2_with (go_at_call 7; refine (bytes_no _ _ _ h w0 w1).mono ?_; rintro e w' ⟨rfl, rfl⟩)
    go_ret
    exact ⟨rfl, Below.refl _ _⟩

/-! ### THE ROW's STEP: WRITTEN OUT: LEAVE IT -/
set_option maxRecDepth 100000 in
theorem lifted (os : Os) (started : os.Started) (H : Type) (enc : TypeId × Value → H) :
    ReturnsInHanded {} Try.checked os 3 .any (Rows.fnWriteQuotedIsCanonicalTomlStringSpec.pre6 enc Try.prog Try.f3 Rows.fnWriteQuotedIsCanonicalTomlStringRow.domain false) (Rows.fnWriteQuotedIsCanonicalTomlStringSpec.post enc Try.prog Try.f3 false true false false) := by
  refine returnsInHanded_of_change (C := Try.checked) own started (by kernel_rfl) Try.func3
    (ChangeSpec.witness6 (enc := enc) (C := Try.checked) false ⟨#[], #[.string ByteArray.empty, .string ByteArray.empty], []⟩ 8 (by kernel_rfl) (by kernel_rfl) (by kernel_rfl) (by kernel_rfl)) ?_
  intro W base args ds gs before hval0 hW hcnd _
  have hval : ∀ (j : Nat) t v, Try.f3.params[j]? = some t → args[j]? = some v → Value.okWide Try.prog W .any base t v := hval0
  have hW' := hW
  obtain ⟨p, q, hA0, hV, rfl, hfz, hnd⟩ := hW
  have hA : DataW.TrodAll enc Try.prog W 0 (fun _ => true) true Try.f3.params.toList args.toList ds p := hA0
  rw [Try.params3] at hA hval
  obtain ⟨v0, vs0, d0, ds0, p0, q0, hargs, rfl, rfl, h0, r0⟩ := trodAll_cons hA
  obtain ⟨v1, vs1, d1, ds1, p1, q1, rfl, rfl, rfl, h1, r1⟩ := trodAll_cons r0
  obtain ⟨rfl, rfl, rfl⟩ := trodAll_nil r1
  obtain rfl : args = #[v0, v1] := by cases args; simp_all
  obtain ⟨rfl, rfl⟩ := trodVars_none hV
  obtain ⟨a0, rfl, rfl, rfl, w0⟩ := open_string Try.underlying9 (hval 0 9 v0 rfl rfl) h0
  obtain ⟨a1, rfl, rfl, rfl, w1⟩ := open_string Try.underlying9 (hval 1 9 v1 rfl rfl) h1
  clear hA0 hval0
  simp only [List.append_nil] at hW'
  refine (walk a0 a1 w0 w1 W).mono fun e W' ⟨he, hg⟩ => ?_
  subst he
  exact ⟨_, rfl, _, _, _, [], [], [], hW', trodAll_mk1 (shut_bool Try.underlying4 _), (trodAll_cons_mk (shut_string Try.underlying9 w0) (trodAll_cons_mk (shut_string Try.underlying9 w1) trodAll_mk0)), rfl, hg.frame _, fun h => by cases h⟩

theorem over : Rows.fnWriteQuotedIsCanonicalTomlStringRow.holds Try.pinned (OpenSpec.ofChange Rows.fnWriteQuotedIsCanonicalTomlStringSpec) :=
  OpenClaim.holds_of_wide 3 Try.f3 rfl rfl rfl rfl rfl rfl rfl ⟨rfl, rfl, rfl, rfl, rfl⟩ rfl rfl rfl rfl rfl (by kernel_rfl) Try.func3 (by kernel_rfl)
    (of_decide_eq_true (by kernel_rfl)) (by unfold Func.isWrapper; first | (rw [if_pos (by decide +kernel)]; kernel_rfl) | (rw [if_neg (by decide +kernel)]; exact ⟨rfl, rfl⟩))
    (fun os started H enc _ => lifted os started H enc)

/-- ████ THE STATEMENT ████ -/
theorem proved : Rows.FnWriteQuotedIsCanonicalTomlStringSaid :=
  over
end Go.Proofs.Qxb6601730a.fnWriteQuotedIsCanonicalTomlString

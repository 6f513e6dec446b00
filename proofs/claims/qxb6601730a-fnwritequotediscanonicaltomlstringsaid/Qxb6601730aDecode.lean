/-
  The walks of zzCont and zzDecodeRune: they compute Utf.zz.
-/
import Derived.Test.Qxb6601730aRows
import Derived.Test.Qxb6601730aUtf
import Derived.WalkKit
import Derived.WalkSpells
import Derived.WalkLawsBesides
set_option linter.unusedVariables false
namespace Go.Proofs.Qxb6601730a
open Go.RowKit Go.Proofs.Qxb6601730a.Utf

def contB (c lo hi : Int) : Bool := decide (lo ≤ c) && decide (c ≤ hi)

theorem cont_any (c lo hi : Int) (w : World) : Calls Try.prog 29 #[.int .u8 c, .int .u8 lo, .int .u8 hi] w fun e w' => e = .returned (.bool (contB c lo hi)) ∧ w = w' := by
  unfold contB
  by_cases h1 : lo ≤ c
  · by_cases h2 : c ≤ hi
    · go_enter Try.func29, Try.ntmps29
      go_wp2
      go_ret
      exact ⟨by simp [h1, h2], rfl⟩
    · go_enter Try.func29, Try.ntmps29
      go_wp2
      go_ret
      exact ⟨by simp [h2], rfl⟩
  · have h1' : decide (lo ≤ c) = false := by simpa using h1
    go_enter Try.func29, Try.ntmps29
    go_wp2
    go_ret
    exact ⟨by simp, rfl⟩

theorem gs_at (s : ByteArray) (i k : Nat) (h : i + k < s.size) : gs s i k = (s[i + k]'h).toNat := by
  have h' : i + k < s.data.size := h
  show (s.data[i + k]!).toNat = (s.data[i + k]'h').toNat
  rw [getElem!_pos s.data (i + k) h']

theorem zz_is_no {n : Nat} {g : Nat → Nat} (h : ∀ w, ¬ zz n g = (w, true)) : zz n g = (1, false) := by
  refine zz_no ?_
  cases e : (zz n g).2
  · rfl
  · exact absurd (show zz n g = ((zz n g).1, true) from Prod.ext rfl e) (h (zz n g).1)

set_option maxRecDepth 100000 in
theorem dec_one (s : ByteArray) (i : Nat) (w : World) (hs : s.size ≤ 1099511627776) (hi : i < s.size) (b0 : Nat) (e0 : (s[i]'hi).toNat = b0) (h1 : b0 < 128) :
    Calls Try.prog 24 #[.string s, .int .i64 i] w fun e w' => e = .returned (.tuple #[.int .i64 1, .bool true]) ∧ w = w' := by
  go_enter Try.func24, Try.ntmps24
  go_wp2
  go_ret2
  exact ⟨rfl, rfl⟩
set_option maxRecDepth 100000 in
theorem dec_bad (s : ByteArray) (i : Nat) (w : World) (hs : s.size ≤ 1099511627776) (hi : i < s.size) (b0 : Nat) (e0 : (s[i]'hi).toNat = b0) (h1 : 128 ≤ b0) (h2 : b0 < 194 ∨ 244 < b0) :
    Calls Try.prog 24 #[.string s, .int .i64 i] w fun e w' => e = .returned (.tuple #[.int .i64 1, .bool false]) ∧ w = w' := by
  by_cases h3 : b0 < 194
  · clear h2
    go_enter Try.func24, Try.ntmps24
    go_wp2
    go_ret2
    exact ⟨rfl, rfl⟩
  · have h4 : 244 < b0 := by omega
    clear h2
    go_enter Try.func24, Try.ntmps24
    go_wp2
    go_ret2
    exact ⟨rfl, rfl⟩
set_option maxRecDepth 100000 in
theorem dec_two (s : ByteArray) (i : Nat) (w : World) (hs : s.size ≤ 1099511627776) (hi : i + 1 < s.size) (b0 b1 : Nat) (e0 : (s[i]'(by omega)).toNat = b0) (e1 : (s[i + 1]'hi).toNat = b1) (h1 : 194 ≤ b0) (h2 : b0 < 224) (ok : Bool) (c1 : contB b1 128 191 = ok) :
    Calls Try.prog 24 #[.string s, .int .i64 i] w fun e w' => e = .returned (.tuple #[.int .i64 (if ok then 2 else 1), .bool ok]) ∧ w = w' := by
  cases ok
  all_goals
    go_enter Try.func24, Try.ntmps24
    go_wp2_with (go_at_call 29; refine (cont_any _ _ _ _).mono ?_; rintro e w' ⟨rfl, rfl⟩)
    go_ret2
    exact ⟨rfl, rfl⟩
set_option maxRecDepth 100000 in
theorem dec_two_cut (s : ByteArray) (i : Nat) (w : World) (hs : s.size ≤ 1099511627776) (hi : i < s.size) (hi2 : ¬ i + 1 < s.size) (b0 : Nat) (e0 : (s[i]'hi).toNat = b0) (h1 : 194 ≤ b0) (h2 : b0 < 224) :
    Calls Try.prog 24 #[.string s, .int .i64 i] w fun e w' => e = .returned (.tuple #[.int .i64 1, .bool false]) ∧ w = w' := by
  have hd : decide ((s.size : Int) - (i : Int) < 2) = true := by simp; omega
  go_enter Try.func24, Try.ntmps24
  go_wp2_with (go_at_call 29; refine (cont_any _ _ _ _).mono ?_; rintro e w' ⟨rfl, rfl⟩)
  go_ret2
  exact ⟨rfl, rfl⟩
end Go.Proofs.Qxb6601730a

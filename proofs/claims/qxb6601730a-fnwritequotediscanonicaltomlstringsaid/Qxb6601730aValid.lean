/-
  zzDecodeRune whole; zzValidUTF8.
-/
import Derived.Test.Qxb6601730aDecode3
import Derived.Test.Qxb6601730aDecode4
import Derived.Test.Qxb6601730aQuote
set_option linter.unusedVariables false
namespace Go.Proofs.Qxb6601730a
open Go.RowKit Go.Proofs.Qxb6601730a.Utf

theorem contB_iff (c lo hi : Int) : contB c lo hi = true ↔ lo ≤ c ∧ c ≤ hi := by simp [contB]

theorem dec_zz (s : ByteArray) (i : Nat) (w : World) (hs : s.size ≤ 1099511627776) (hi : i < s.size) :
    Calls Try.prog 24 #[.string s, .int .i64 i] w fun e w' => e = .returned (.tuple #[.int .i64 (zz (s.size - i) (gs s i)).1, .bool (zz (s.size - i) (gs s i)).2]) ∧ w = w' := by
  have e0 : (s[i]'hi).toNat = gs s i 0 := (gs_at s i 0 hi).symm
  have fin : ∀ {w1 : Nat} {k : Bool} {z : Nat × Bool}, z = (w1, k) → ∀ (e : Ending) (w' : World), (e = .returned (.tuple #[.int .i64 w1, .bool k]) ∧ w = w') → e = .returned (.tuple #[.int .i64 z.1, .bool z.2]) ∧ w = w' := by
    rintro w1 k z rfl e w' h
    exact h
  by_cases c1 : gs s i 0 < 128
  · exact (dec_one s i w hs hi _ e0 c1).mono (fin (zz_of_yes (.inl ⟨rfl, c1⟩)))
  by_cases c2 : gs s i 0 < 194 ∨ 244 < gs s i 0
  · exact (dec_bad s i w hs hi _ e0 (by omega) c2).mono (fin (zz_is_no fun w h => by have := zz_yes h (by omega); omega))
  by_cases c3 : gs s i 0 < 224
  · by_cases h2 : i + 1 < s.size
    · refine (dec_two s i w hs h2 _ _ e0 (gs_at s i 1 h2).symm (by omega) c3 _ rfl).mono ?_
      cases hk : contB (gs s i 1) 128 191
      · have hn : ¬ ((128 : Int) ≤ gs s i 1 ∧ (gs s i 1 : Int) ≤ 191) := by rw [← contB_iff, hk]; simp
        exact fin (zz_is_no fun w h => by have := zz_yes h (by omega); omega)
      · have hn := (contB_iff _ _ _).1 hk
        exact fin (zz_of_yes (.inr (.inl ⟨rfl, by omega⟩)))
    · exact (dec_two_cut s i w hs hi h2 _ e0 (by omega) c3).mono (fin (zz_is_no fun w h => by have := zz_yes h (by omega); omega))
  by_cases c4 : gs s i 0 < 240
  · by_cases h2 : i + 2 < s.size
    · refine (dec_three s i w hs h2 _ _ _ e0 (gs_at s i 1 (by omega)).symm (gs_at s i 2 h2).symm (by omega) c4 _ _ rfl rfl).mono ?_
      cases hk : (contB (gs s i 1) (if gs s i 0 = 224 then 160 else 128) (if gs s i 0 = 237 then 159 else 191) && contB (gs s i 2) 128 191)
      · have hn : ¬ (((if gs s i 0 = 224 then (160 : Int) else 128) ≤ gs s i 1 ∧ (gs s i 1 : Int) ≤ (if gs s i 0 = 237 then (159 : Int) else 191)) ∧ (128 : Int) ≤ gs s i 2 ∧ (gs s i 2 : Int) ≤ 191) := by
          rw [← contB_iff, ← contB_iff, ← Bool.and_eq_true, hk]; simp
        refine fin (zz_is_no fun w h => ?_)
        have := zz_yes h (by omega)
        apply hn
        split <;> split <;> omega
      · rw [Bool.and_eq_true, contB_iff, contB_iff] at hk
        refine fin (w1 := 3) (k := true) (zz_of_yes (.inr (.inr (.inl ?_))))
        obtain ⟨⟨a, b⟩, c, d⟩ := hk
        by_cases x : gs s i 0 = 224
        · rw [if_pos x] at a; rw [if_neg (by omega)] at b; omega
        · rw [if_neg x] at a
          by_cases y : gs s i 0 = 237
          · rw [if_pos y] at b; omega
          · rw [if_neg y] at b; omega
    · exact (dec_three_cut s i w hs hi h2 _ e0 (by omega) c4).mono (fin (zz_is_no fun w h => by have := zz_yes h (by omega); omega))
  · by_cases h2 : i + 3 < s.size
    · refine (dec_four s i w hs h2 _ _ _ _ e0 (gs_at s i 1 (by omega)).symm (gs_at s i 2 (by omega)).symm (gs_at s i 3 h2).symm (by omega) (by omega) _ _ _ rfl rfl rfl).mono ?_
      cases hk : (contB (gs s i 1) (if gs s i 0 = 240 then 144 else 128) (if gs s i 0 = 244 then 143 else 191) && (contB (gs s i 2) 128 191 && contB (gs s i 3) 128 191))
      · have hn : ¬ (((if gs s i 0 = 240 then (144 : Int) else 128) ≤ gs s i 1 ∧ (gs s i 1 : Int) ≤ (if gs s i 0 = 244 then (143 : Int) else 191)) ∧ ((128 : Int) ≤ gs s i 2 ∧ (gs s i 2 : Int) ≤ 191) ∧ (128 : Int) ≤ gs s i 3 ∧ (gs s i 3 : Int) ≤ 191) := by
          rw [← contB_iff, ← contB_iff, ← contB_iff, ← Bool.and_eq_true, ← Bool.and_eq_true, hk]; simp
        refine fin (zz_is_no fun w h => ?_)
        have := zz_yes h (by omega)
        apply hn
        split <;> split <;> omega
      · rw [Bool.and_eq_true, Bool.and_eq_true, contB_iff, contB_iff, contB_iff] at hk
        refine fin (w1 := 4) (k := true) (zz_of_yes (.inr (.inr (.inr ?_))))
        obtain ⟨⟨a, b⟩, ⟨c, d⟩, f, g⟩ := hk
        by_cases x : gs s i 0 = 240
        · rw [if_pos x] at a; rw [if_neg (by omega)] at b; omega
        · rw [if_neg x] at a
          by_cases y : gs s i 0 = 244
          · rw [if_pos y] at b; omega
          · rw [if_neg y] at b; omega
    · exact (dec_four_cut s i w hs hi h2 _ e0 (by omega) (by omega)).mono (fin (zz_is_no fun w h => by have := zz_yes h (by omega); omega))

theorem dec_any (s : ByteArray) (i : Nat) (w : World) (hs : s.size ≤ 1099511627776) (hi : i < s.size) :
    Calls Try.prog 24 #[.string s, .int .i64 i] w fun e w' => e = .returned (.tuple #[.int .i64 (zl (s.data.toList.drop i)).1, .bool (zl (s.data.toList.drop i)).2]) ∧ w = w' := by
  rw [← zl_drop]
  exact dec_zz s i w hs hi

theorem drop_ne {s : ByteArray} {i : Nat} (h : i < s.size) : s.data.toList.drop i ≠ [] := by
  intro hh
  have := len_drop s i
  rw [hh] at this
  simp at this
  omega

set_option maxHeartbeats 400000 in
theorem valid_any (s : ByteArray) (w : World) (hs : s.size ≤ 1099511627776) :
    Calls Try.prog 12 #[.string s] w fun e w' => e = .returned (.bool (good s.data.toList)) ∧ w = w' := by
  go_enter Try.func12, Try.ntmps12
  go_wp2
  go_loop [3] (fun i => ∃ k : Nat, k ≤ s.size ∧ i = .int .i64 k ∧ Hid (good s.data.toList = good (s.data.toList.drop k))) (fun i => s.size - (intOf i).toNat)
  case atStart => exact ⟨0, Nat.zero_le _, rfl, rfl⟩
  case round =>
    obtain ⟨k, hk, rfl, hg⟩ := hrel
    by_cases hlt : k < s.size
    · have hw := zl_w (drop_ne hlt)
      have hlen := len_drop s k
      have HG : Hid (good s.data.toList = ((zl (s.data.toList.drop k)).2 && good (s.data.toList.drop (k + (zl (s.data.toList.drop k)).1)))) := by
        have := hg.out
        rw [good_cons (drop_ne hlt), List.drop_drop] at this
        exact this
      have hd := dec_any s k w hs hlt
      have HD : Hid (Calls Try.prog 24 #[.string s, .int .i64 k] w fun e w' => e = .returned (.tuple #[.int .i64 (zl (s.data.toList.drop k)).1, .bool (zl (s.data.toList.drop k)).2]) ∧ w = w') := hd
      clear hd hg
      rw [hlen] at hw
      clear hlen
      generalize zl (s.data.toList.drop k) = z at *
      obtain ⟨n, ok⟩ := z
      simp only at hw
      cases ok
      · go_wp2_with (go_at_call 24; refine HD.out.mono ?_; rintro e w' ⟨rfl, rfl⟩)
        go_ret
        have e1 : good s.data.toList = false := HG.out
        exact ⟨by rw [e1]; rfl, rfl⟩
      · go_wp2_with (go_at_call 24; refine HD.out.mono ?_; rintro e w' ⟨rfl, rfl⟩)
        go_round
        case rel => exact ⟨k + n, by omega, by go_num, HG.out⟩
        case measure => simp [intOf]; omega
    · go_wp2
      go_ret
      have e1 : s.data.toList.drop k = [] := List.drop_eq_nil_of_le (by show s.size ≤ k; omega)
      have e2 : good s.data.toList = true := by have := hg.out; rw [e1] at this; exact this
      exact ⟨by rw [e2]; rfl, rfl⟩

end Go.Proofs.Qxb6601730a

/-
  The plain side of the two laws on writeQuoted: UTF-8 as the laws' own reader has it, against the model's decoder; quoting and its reading back, on lists of bytes.
-/
import Derived.Lib.RuneBytes
import Derived.Lib.OthersKept
namespace Go.Proofs.Qxb6601730a.Utf

/-- zzDecodeRune: n bytes are left, g k is the k-th. -/
def zz (n : Nat) (g : Nat → Nat) : Nat × Bool :=
  if g 0 < 128 then (1, true)
  else if g 0 < 194 ∨ 244 < g 0 then (1, false)
  else if g 0 < 224 then (if 2 ≤ n ∧ 128 ≤ g 1 ∧ g 1 ≤ 191 then (2, true) else (1, false))
  else if g 0 < 240 then (if 3 ≤ n ∧ ((if g 0 = 224 then 160 else 128) ≤ g 1 ∧ g 1 ≤ (if g 0 = 237 then 159 else 191)) ∧ 128 ≤ g 2 ∧ g 2 ≤ 191 then (3, true) else (1, false))
  else (if 4 ≤ n ∧ ((if g 0 = 240 then 144 else 128) ≤ g 1 ∧ g 1 ≤ (if g 0 = 244 then 143 else 191)) ∧ (128 ≤ g 2 ∧ g 2 ≤ 191) ∧ 128 ≤ g 3 ∧ g 3 ≤ 191 then (4, true) else (1, false))

/-- What a yes says. -/
theorem zz_yes {n : Nat} {g : Nat → Nat} {w : Nat} (h : zz n g = (w, true)) (_hn : 1 ≤ n) :
    (w = 1 ∧ g 0 < 128) ∨
    (w = 2 ∧ 2 ≤ n ∧ 194 ≤ g 0 ∧ g 0 < 224 ∧ 128 ≤ g 1 ∧ g 1 ≤ 191) ∨
    (w = 3 ∧ 3 ≤ n ∧ 224 ≤ g 0 ∧ g 0 < 240 ∧ 128 ≤ g 1 ∧ g 1 ≤ 191 ∧ (g 0 = 224 → 160 ≤ g 1) ∧ (g 0 = 237 → g 1 ≤ 159) ∧ 128 ≤ g 2 ∧ g 2 ≤ 191) ∨
    (w = 4 ∧ 4 ≤ n ∧ 240 ≤ g 0 ∧ g 0 ≤ 244 ∧ 128 ≤ g 1 ∧ g 1 ≤ 191 ∧ (g 0 = 240 → 144 ≤ g 1) ∧ (g 0 = 244 → g 1 ≤ 143) ∧ 128 ≤ g 2 ∧ g 2 ≤ 191 ∧ 128 ≤ g 3 ∧ g 3 ≤ 191) := by
  unfold zz at h
  by_cases c1 : g 0 < 128
  · rw [if_pos c1] at h; simp at h; omega
  rw [if_neg c1] at h
  by_cases c2 : g 0 < 194 ∨ 244 < g 0
  · rw [if_pos c2] at h; simp at h
  rw [if_neg c2] at h
  by_cases c3 : g 0 < 224
  · rw [if_pos c3] at h
    by_cases c4 : 2 ≤ n ∧ 128 ≤ g 1 ∧ g 1 ≤ 191
    · rw [if_pos c4] at h; simp at h; omega
    · rw [if_neg c4] at h; simp at h
  rw [if_neg c3] at h
  by_cases c5 : g 0 < 240
  · rw [if_pos c5] at h
    by_cases c4 : 3 ≤ n ∧ ((if g 0 = 224 then 160 else 128) ≤ g 1 ∧ g 1 ≤ (if g 0 = 237 then 159 else 191)) ∧ 128 ≤ g 2 ∧ g 2 ≤ 191
    · rw [if_pos c4] at h
      simp at h
      obtain ⟨a, ⟨b, c⟩, d, e⟩ := c4
      have : 128 ≤ g 1 := by split at b <;> omega
      have : g 1 ≤ 191 := by split at c <;> omega
      refine .inr (.inr (.inl ⟨h.symm, a, by omega, by omega, by omega, by omega, fun k => ?_, fun k => ?_, d, e⟩))
      · rw [if_pos k] at b; exact b
      · rw [if_pos k] at c; exact c
    · rw [if_neg c4] at h; simp at h
  · rw [if_neg c5] at h
    by_cases c4 : 4 ≤ n ∧ ((if g 0 = 240 then 144 else 128) ≤ g 1 ∧ g 1 ≤ (if g 0 = 244 then 143 else 191)) ∧ (128 ≤ g 2 ∧ g 2 ≤ 191) ∧ 128 ≤ g 3 ∧ g 3 ≤ 191
    · rw [if_pos c4] at h
      simp at h
      obtain ⟨a, ⟨b, c⟩, ⟨d, e⟩, f, f'⟩ := c4
      have : 128 ≤ g 1 := by split at b <;> omega
      have : g 1 ≤ 191 := by split at c <;> omega
      refine .inr (.inr (.inr ⟨h.symm, a, by omega, by omega, by omega, by omega, fun k => ?_, fun k => ?_, d, e, f, f'⟩))
      · rw [if_pos k] at b; exact b
      · rw [if_pos k] at c; exact c
    · rw [if_neg c4] at h; simp at h

/-- .. and what brings it. -/
theorem zz_of_yes {n : Nat} {g : Nat → Nat} {w : Nat} (h :
    (w = 1 ∧ g 0 < 128) ∨
    (w = 2 ∧ 2 ≤ n ∧ 194 ≤ g 0 ∧ g 0 < 224 ∧ 128 ≤ g 1 ∧ g 1 ≤ 191) ∨
    (w = 3 ∧ 3 ≤ n ∧ 224 ≤ g 0 ∧ g 0 < 240 ∧ 128 ≤ g 1 ∧ g 1 ≤ 191 ∧ (g 0 = 224 → 160 ≤ g 1) ∧ (g 0 = 237 → g 1 ≤ 159) ∧ 128 ≤ g 2 ∧ g 2 ≤ 191) ∨
    (w = 4 ∧ 4 ≤ n ∧ 240 ≤ g 0 ∧ g 0 ≤ 244 ∧ 128 ≤ g 1 ∧ g 1 ≤ 191 ∧ (g 0 = 240 → 144 ≤ g 1) ∧ (g 0 = 244 → g 1 ≤ 143) ∧ 128 ≤ g 2 ∧ g 2 ≤ 191 ∧ 128 ≤ g 3 ∧ g 3 ≤ 191)) :
    zz n g = (w, true) := by
  unfold zz
  rcases h with ⟨rfl, h⟩ | ⟨rfl, h⟩ | ⟨rfl, a, b, c, d, e, f, f', i, j⟩ | ⟨rfl, a, b, c, d, e, f, f', i, j, k, l⟩
  · rw [if_pos h]
  · rw [if_neg (by omega), if_neg (by omega), if_pos (by omega), if_pos (by omega)]
  · rw [if_neg (by omega), if_neg (by omega), if_neg (by omega), if_pos (by omega), if_pos]
    refine ⟨a, ⟨?_, ?_⟩, i, j⟩
    · split
      · exact f ‹_›
      · exact d
    · split
      · exact f' ‹_›
      · exact e
  · rw [if_neg (by omega), if_neg (by omega), if_neg (by omega), if_neg (by omega), if_pos]
    refine ⟨a, ⟨?_, ?_⟩, ⟨i, j⟩, k, l⟩
    · split
      · exact f ‹_›
      · exact d
    · split
      · exact f' ‹_›
      · exact e

theorem zz_no {n : Nat} {g : Nat → Nat} (h : (zz n g).2 = false) : zz n g = (1, false) := by
  unfold zz at *
  repeat' split
  all_goals simp_all

/-- More bytes behind a whole rune turn nothing. -/
theorem zz_more {n n' : Nat} {g g' : Nat → Nat} {w : Nat} (h : zz n g = (w, true)) (hn : 1 ≤ n) (hnn : n ≤ n') (hg : ∀ k, k < n → g' k = g k) : zz n' g' = (w, true) := by
  refine zz_of_yes ?_
  have e0 := hg 0 (by omega)
  rcases zz_yes h hn with h | h | h | h
  · exact .inl ⟨h.1, by omega⟩
  · have e1 := hg 1 (by omega)
    exact .inr (.inl (by omega))
  · have e1 := hg 1 (by omega)
    have e2 := hg 2 (by omega)
    refine .inr (.inr (.inl ?_))
    rw [e0, e1, e2]
    exact ⟨h.1, by omega, h.2.2⟩
  · have e1 := hg 1 (by omega)
    have e2 := hg 2 (by omega)
    have e3 := hg 3 (by omega)
    refine .inr (.inr (.inr ?_))
    rw [e0, e1, e2, e3]
    exact ⟨h.1, by omega, h.2.2⟩

theorem zz_w {n : Nat} {g : Nat → Nat} {w : Nat} (h : zz n g = (w, true)) (hn : 1 ≤ n) : 1 ≤ w ∧ w ≤ 4 ∧ w ≤ n := by
  rcases zz_yes h hn with h | h | h | h <;> omega

/-! ### The model's decoder -/
def gs (s : ByteArray) (i k : Nat) : Nat := (s.get! (i + k)).toNat

theorem decode_eq (s : ByteArray) (i : Nat) : Utf8.decode s i =
    (if gs s i 0 < 0x80 then (gs s i 0, 1)
    else if gs s i 0 / 32 == 6 && (decide (i + 1 < s.size) && gs s i 1 / 64 == 2) then
      (if (gs s i 0 % 32) * 64 + gs s i 1 % 64 ≥ 0x80 then ((gs s i 0 % 32) * 64 + gs s i 1 % 64, 2) else (65533, 1))
    else if gs s i 0 / 16 == 14 && (decide (i + 1 < s.size) && gs s i 1 / 64 == 2) && (decide (i + 2 < s.size) && gs s i 2 / 64 == 2) then
      (if (decide ((gs s i 0 % 16) * 4096 + (gs s i 1 % 64) * 64 + gs s i 2 % 64 ≥ 0x800) && Utf8.valid (((gs s i 0 % 16) * 4096 + (gs s i 1 % 64) * 64 + gs s i 2 % 64 : Nat))) then ((gs s i 0 % 16) * 4096 + (gs s i 1 % 64) * 64 + gs s i 2 % 64, 3) else (65533, 1))
    else if gs s i 0 / 8 == 30 && (decide (i + 1 < s.size) && gs s i 1 / 64 == 2) && (decide (i + 2 < s.size) && gs s i 2 / 64 == 2) && (decide (i + 3 < s.size) && gs s i 3 / 64 == 2) then
      (if (decide ((gs s i 0 % 8) * 262144 + (gs s i 1 % 64) * 4096 + (gs s i 2 % 64) * 64 + gs s i 3 % 64 ≥ 0x10000) && Utf8.valid (((gs s i 0 % 8) * 262144 + (gs s i 1 % 64) * 4096 + (gs s i 2 % 64) * 64 + gs s i 3 % 64 : Nat))) then ((gs s i 0 % 8) * 262144 + (gs s i 1 % 64) * 4096 + (gs s i 2 % 64) * 64 + gs s i 3 % 64, 4) else (65533, 1))
    else (65533, 1)) := rfl

theorem gs_lt (s : ByteArray) (i k : Nat) : gs s i k < 256 := (s.get! (i + k)).toNat_lt

theorem valid_iff (r : Nat) : Utf8.valid (r : Int) = true ↔ r < 55296 ∨ (57344 ≤ r ∧ r ≤ 1114111) := by
  simp [Utf8.valid]; omega

/-- A whole rune: the model reads it, and its bytes are its UTF-8 form. -/
theorem decode_yes (s : ByteArray) (i w : Nat) (hi : i < s.size) (h : zz (s.size - i) (gs s i) = (w, true)) :
    ∃ r : Nat, Utf8.decode s i = (r, w) ∧ r ≤ 1114111 ∧ (r < 55296 ∨ 57343 < r) ∧ (w = 1 ↔ r < 128) ∧ (w = 1 → r = gs s i 0) ∧
      Lib.encodeRuneZ r = (List.range w).map (fun k => (gs s i k : Int)) := by
  have b0 := gs_lt s i 0
  have b1 := gs_lt s i 1
  have b2 := gs_lt s i 2
  have b3 := gs_lt s i 3
  rw [decode_eq]
  rcases zz_yes h (by omega) with ⟨rfl, h⟩ | ⟨rfl, h⟩ | ⟨rfl, a, b, c, d, e, f, f', p, q⟩ | ⟨rfl, a, b, c, d, e, f, f', p, q, k, l⟩
  · generalize gs s i = g at *
    refine ⟨g 0, by rw [if_pos (by omega)], by omega, by omega, by omega, fun _ => rfl, ?_⟩
    rw [Lib.encodeRuneZ_one (by omega) (by omega)]
    rfl
  · generalize gs s i = g at *
    refine ⟨g 0 % 32 * 64 + g 1 % 64, ?_, by omega, by omega, by omega, by omega, ?_⟩
    · rw [if_neg (by omega), if_pos (by simp; omega), if_pos (by omega)]
    · rw [Lib.encodeRuneZ_two (by omega) (by omega)]
      show _ = [(g 0 : Int), (g 1 : Int)]
      congr 1
      · omega
      · congr 1; omega
  · generalize gs s i = g at *
    have hv : g 0 % 16 * 4096 + g 1 % 64 * 64 + g 2 % 64 < 55296 ∨ (57344 ≤ g 0 % 16 * 4096 + g 1 % 64 * 64 + g 2 % 64 ∧ g 0 % 16 * 4096 + g 1 % 64 * 64 + g 2 % 64 ≤ 1114111) := by omega
    refine ⟨g 0 % 16 * 4096 + g 1 % 64 * 64 + g 2 % 64, ?_, by omega, by omega, by omega, by omega, ?_⟩
    · rw [if_neg (by omega), if_neg (by simp; omega), if_pos (by simp; omega), if_pos]
      rw [Bool.and_eq_true, valid_iff]
      exact ⟨by simp; omega, hv⟩
    · rw [Lib.encodeRuneZ_three (by omega)]
      show _ = [(g 0 : Int), (g 1 : Int), (g 2 : Int)]
      congr 1
      · omega
      · congr 1
        · omega
        · congr 1; omega
  · generalize gs s i = g at *
    have hv : g 0 % 8 * 262144 + g 1 % 64 * 4096 + g 2 % 64 * 64 + g 3 % 64 < 55296 ∨ (57344 ≤ g 0 % 8 * 262144 + g 1 % 64 * 4096 + g 2 % 64 * 64 + g 3 % 64 ∧ g 0 % 8 * 262144 + g 1 % 64 * 4096 + g 2 % 64 * 64 + g 3 % 64 ≤ 1114111) := by omega
    refine ⟨g 0 % 8 * 262144 + g 1 % 64 * 4096 + g 2 % 64 * 64 + g 3 % 64, ?_, by omega, by omega, by omega, by omega, ?_⟩
    · rw [if_neg (by omega), if_neg (by simp; omega), if_neg (by simp; omega), if_pos (by simp; omega), if_pos]
      rw [Bool.and_eq_true, valid_iff]
      exact ⟨by simp; omega, hv⟩
    · rw [Lib.encodeRuneZ_four (by omega) (by omega)]
      show _ = [(g 0 : Int), (g 1 : Int), (g 2 : Int), (g 3 : Int)]
      congr 1
      · omega
      · congr 1
        · omega
        · congr 1
          · omega
          · congr 1; omega

/-- No whole rune: one byte, U+FFFD. -/
theorem decode_no (s : ByteArray) (i : Nat) (_hi : i < s.size) (h : (zz (s.size - i) (gs s i)).2 = false) : Utf8.decode s i = (65533, 1) := by
  have b0 := gs_lt s i 0
  have b1 := gs_lt s i 1
  have b2 := gs_lt s i 2
  have b3 := gs_lt s i 3
  have hz : ∀ w, ¬ zz (s.size - i) (gs s i) = (w, true) := fun w e => by rw [e] at h; cases h
  rw [decode_eq]
  generalize gs s i = g at *
  split
  · exact absurd (zz_of_yes (.inl ⟨rfl, by omega⟩)) (hz 1)
  split
  · rename_i h1
    simp at h1
    split
    · exact absurd (zz_of_yes (.inr (.inl ⟨rfl, by omega, by omega, by omega, by omega, by omega⟩))) (hz 2)
    · rfl
  split
  · rename_i h1
    simp at h1
    split
    · rename_i h2
      rw [Bool.and_eq_true, valid_iff] at h2
      obtain ⟨h2, h3⟩ := h2
      simp at h2
      exact absurd (zz_of_yes (.inr (.inr (.inl ⟨rfl, by omega, by omega, by omega, by omega, by omega, by omega, by omega, by omega, by omega⟩)))) (hz 3)
    · rfl
  split
  · rename_i h1
    simp at h1
    split
    · rename_i h2
      rw [Bool.and_eq_true, valid_iff] at h2
      obtain ⟨h2, h3⟩ := h2
      simp at h2
      exact absurd (zz_of_yes (.inr (.inr (.inr ⟨rfl, by omega, by omega, by omega, by omega, by omega, by omega, by omega, by omega, by omega, by omega, by omega⟩)))) (hz 4)
    · rfl
  · rfl

end Go.Proofs.Qxb6601730a.Utf

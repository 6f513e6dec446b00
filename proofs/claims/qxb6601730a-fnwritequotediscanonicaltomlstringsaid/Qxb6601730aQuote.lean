/-
  The plain side, on lists of bytes: runs by whole runes, quoting, sanitizing, validity.
-/
import Derived.Test.Qxb6601730aUtf
namespace Go.Proofs.Qxb6601730a.Utf

def gl (l : List UInt8) (k : Nat) : Nat := (l.getD k 0).toNat
/-- The laws' reader at a list's head. -/
def zl (l : List UInt8) : Nat × Bool := zz l.length (gl l)

theorem gs_drop (s : ByteArray) (i k : Nat) : gs s i k = gl (s.data.toList.drop i) k := by
  have e : s.get! (i + k) = s.data.toList.getD (i + k) 0 := by
    show s.data[i + k]! = _
    simp [List.getD, Array.getElem!_eq_getD, Array.getD_eq_getD_getElem?]
    rfl
  simp [gs, gl, e, List.getD, List.getElem?_drop]
theorem len_drop (s : ByteArray) (i : Nat) : (s.data.toList.drop i).length = s.size - i := by
  rw [List.length_drop]
  rfl
theorem zl_drop (s : ByteArray) (i : Nat) : zz (s.size - i) (gs s i) = zl (s.data.toList.drop i) := by
  have e : gs s i = gl (s.data.toList.drop i) := funext fun k => gs_drop s i k
  have e2 : s.size - i = (s.data.toList.drop i).length := (len_drop s i).symm
  rw [e, e2]
  rfl

theorem zl_w {l : List UInt8} (h : l ≠ []) : 1 ≤ (zl l).1 ∧ (zl l).1 ≤ 4 ∧ (zl l).1 ≤ l.length := by
  have hl : 1 ≤ l.length := by cases l with | nil => exact absurd rfl h | cons => simp
  cases e : (zl l).2
  · have := zz_no e
    unfold zl
    rw [this]
    exact ⟨by simp, by simp, hl⟩
  · exact zz_w (show zz l.length (gl l) = ((zl l).1, true) from Prod.ext rfl e) hl

theorem gl_append {l m : List UInt8} {k : Nat} (h : k < l.length) : gl (l ++ m) k = gl l k := by
  simp [gl, List.getD, List.getElem?_append_left h]

/-- A whole rune at the head, more bytes behind. -/
theorem zl_append {l m : List UInt8} (hl : l ≠ []) (h : (zl l).2 = true) : zl (l ++ m) = zl l := by
  have h1 : 1 ≤ l.length := by cases l with | nil => exact absurd rfl hl | cons => simp
  have e : zz l.length (gl l) = ((zl l).1, true) := Prod.ext rfl h
  have := zz_more (n' := (l ++ m).length) (g' := gl (l ++ m)) e h1 (by simp) (fun k hk => gl_append hk)
  show zz _ _ = zz _ _
  rw [this, e]

/-- A run by whole runes: at each the bytes that 'st' gives. -/
def run (st : List UInt8 → List UInt8) : Nat → List UInt8 → List UInt8
  | 0, _ => []
  | f + 1, l => if l = [] then [] else st l ++ run st f (l.drop (zl l).1)

theorem run_nil (st : List UInt8 → List UInt8) (f : Nat) : run st f [] = [] := by cases f <;> simp [run]
theorem run_fuel (st : List UInt8 → List UInt8) : ∀ (f f' : Nat) (l : List UInt8), l.length ≤ f → l.length ≤ f' → run st f l = run st f' l
  | 0, f', l, h, _ => by
    have : l = [] := List.eq_nil_of_length_eq_zero (by omega)
    subst this
    simp [run_nil]
  | f + 1, 0, l, _, h => by
    have : l = [] := List.eq_nil_of_length_eq_zero (by omega)
    subst this
    simp [run_nil]
  | f + 1, f' + 1, l, h, h' => by
    by_cases e : l = []
    · subst e; simp [run]
    · have hw := zl_w e
      rw [run, run, if_neg e, if_neg e, run_fuel st f f' _ (by simp; omega) (by simp; omega)]
theorem run_cons (st : List UInt8 → List UInt8) {f : Nat} {l : List UInt8} (h : l ≠ []) (hf : l.length ≤ f) : run st f l = st l ++ run st f (l.drop (zl l).1) := by
  obtain ⟨g, rfl⟩ : ∃ g, f = g + 1 := ⟨f - 1, by have := List.length_pos_iff.2 h; omega⟩
  have hw := zl_w h
  rw [run, if_neg h, run_fuel st g (g + 1) _ (by simp; omega) (by simp; omega)]

/-! ### Quoting -/
def hexd (n : Nat) : UInt8 := UInt8.ofNat (if n < 10 then 48 + n else 55 + n)
def escB (b : UInt8) : List UInt8 :=
  if b.toNat = 34 ∨ b.toNat = 92 then [92, b] else if b.toNat < 32 ∨ b.toNat = 127 then [92, 117, 48, 48, hexd (b.toNat / 16), hexd (b.toNat % 16)] else [b]
def esc (l : List UInt8) : List UInt8 := if (zl l).2 then (if (zl l).1 = 1 then escB (l.getD 0 0) else l.take (zl l).1) else [239, 191, 189]
def san (l : List UInt8) : List UInt8 := if (zl l).2 then l.take (zl l).1 else [239, 191, 189]
/-- The body of the quoted string. -/
def body (l : List UInt8) : List UInt8 := run esc l.length l
def clean (l : List UInt8) : List UInt8 := run san l.length l

theorem body_nil : body [] = [] := rfl
theorem body_cons {l : List UInt8} (h : l ≠ []) : body l = esc l ++ body (l.drop (zl l).1) := by
  unfold body
  rw [run_cons esc h (Nat.le_refl _)]
  congr 1
  exact run_fuel esc _ _ _ (by simp) (Nat.le_refl _)
theorem clean_nil : clean [] = [] := rfl
theorem clean_cons {l : List UInt8} (h : l ≠ []) : clean l = san l ++ clean (l.drop (zl l).1) := by
  unfold clean
  rw [run_cons san h (Nat.le_refl _)]
  congr 1
  exact run_fuel san _ _ _ (by simp) (Nat.le_refl _)

/-! ### Validity -/
def vl : Nat → List UInt8 → Bool
  | 0, _ => true
  | f + 1, l => if l = [] then true else (zl l).2 && vl f (l.drop (zl l).1)
def good (l : List UInt8) : Bool := vl l.length l
theorem vl_fuel : ∀ (f f' : Nat) (l : List UInt8), l.length ≤ f → l.length ≤ f' → vl f l = vl f' l
  | 0, f', l, h, _ => by
    have : l = [] := List.eq_nil_of_length_eq_zero (by omega)
    subst this
    cases f' <;> simp [vl]
  | f + 1, 0, l, _, h => by
    have : l = [] := List.eq_nil_of_length_eq_zero (by omega)
    subst this
    simp [vl]
  | f + 1, f' + 1, l, h, h' => by
    by_cases e : l = []
    · subst e; simp [vl]
    · have hw := zl_w e
      rw [vl, vl, if_neg e, if_neg e, vl_fuel f f' _ (by simp; omega) (by simp; omega)]
theorem good_nil : good [] = true := rfl
theorem good_cons {l : List UInt8} (h : l ≠ []) : good l = ((zl l).2 && good (l.drop (zl l).1)) := by
  obtain ⟨g, hg⟩ : ∃ g, l.length = g + 1 := ⟨l.length - 1, by have := List.length_pos_iff.2 h; omega⟩
  have hw := zl_w h
  unfold good
  rw [hg, vl, if_neg h]
  congr 1
  exact vl_fuel _ _ _ (by simp; omega) (Nat.le_refl _)

theorem esc_append {l m : List UInt8} (hl : l ≠ []) (h : (zl l).2 = true) : esc (l ++ m) = esc l := by
  have hw := zl_w hl
  have h1 : 0 < l.length := List.length_pos_iff.2 hl
  unfold esc
  rw [zl_append hl h, List.take_append_of_le_length hw.2.2]
  simp [List.getD, List.getElem?_append_left h1]

/-- THE LAW 'splits at a rune boundary', plain. -/
theorem body_append (m : List UInt8) : ∀ (n : Nat) (l : List UInt8), l.length ≤ n → good l = true → body (l ++ m) = body l ++ body m
  | 0, l, h, _ => by
    have : l = [] := List.eq_nil_of_length_eq_zero (by omega)
    subst this
    simp [body_nil]
  | n + 1, l, h, hg => by
    by_cases e : l = []
    · subst e; simp [body_nil]
    · rw [good_cons e, Bool.and_eq_true] at hg
      have hw := zl_w e
      rw [body_cons e, body_cons (show l ++ m ≠ [] by simp [e]), zl_append e hg.1, esc_append e hg.1, List.drop_append_of_le_length hw.2.2,
        body_append m n (l.drop (zl l).1) (by simp; omega) hg.2, List.append_assoc]

/-- What the model's range over a string writes at a rune. -/
def escR (r : Nat) : List UInt8 := if r < 128 then escB (UInt8.ofNat r) else Lib.encodeRune r

theorem decode_esc (s : ByteArray) (i : Nat) (hi : i < s.size) :
    escR (Utf8.decode s i).1 = esc (s.data.toList.drop i) ∧ (Utf8.decode s i).2 = (zl (s.data.toList.drop i)).1 ∧ (Utf8.decode s i).1 ≤ 1114111 ∧ ((Utf8.decode s i).1 < 55296 ∨ 57343 < (Utf8.decode s i).1) := by
  have hz := zl_drop s i
  unfold esc
  cases e : (zl (s.data.toList.drop i)).2
  · have hd := decode_no s i hi (by rw [hz]; exact e)
    have hz1 : (zl (s.data.toList.drop i)).1 = 1 := by rw [show zl (s.data.toList.drop i) = (1, false) from zz_no e]
    rw [hd, hz1]
    refine ⟨?_, rfl, by simp, by simp⟩
    rw [if_neg (by simp)]
    decide
  · obtain ⟨r, hd, h1, h2, h3, h4, h5⟩ := decode_yes s i (zl (s.data.toList.drop i)).1 hi (by rw [hz]; exact Prod.ext rfl e)
    have hne : s.data.toList.drop i ≠ [] := by
      intro hh
      have := congrArg List.length hh
      rw [len_drop] at this
      simp at this
      omega
    have hw := zl_w hne
    have hlen := len_drop s i
    rw [hd]
    refine ⟨?_, rfl, h1, h2⟩
    simp only [if_true]
    generalize zl (s.data.toList.drop i) = z at *
    unfold escR
    by_cases c : z.1 = 1
    · rw [if_pos (h3.1 c), if_pos c, h4 c, gs_drop]
      simp [gl]
    · rw [if_neg (fun x => c (h3.2 x)), if_neg c]
      unfold Lib.encodeRune
      rw [h5]
      refine List.ext_getElem (by simp; omega) fun k hk1 hk2 => ?_
      simp at hk1 hk2
      have hkl : k < (s.data.toList.drop i).length := by omega
      simp only [List.getElem_map, List.getElem_range, Int.toNat_natCast, List.getElem_take]
      rw [gs_drop]
      unfold gl
      rw [List.getD_eq_getElem?_getD, List.getElem?_eq_getElem hkl]
      simp

end Go.Proofs.Qxb6601730a.Utf

/-
  The plain side of reading the quoted form back.
-/
import Derived.Test.Qxb6601730aQuote
namespace Go.Proofs.Qxb6601730a.Utf

theorem zz_move {n n' : Nat} {g g' : Nat → Nat} {w : Nat} (h : zz n g = (w, true)) (hn : 1 ≤ n) (hnn : w ≤ n') (hg : ∀ k, k < w → g' k = g k) : zz n' g' = (w, true) := by
  refine zz_of_yes ?_
  rcases zz_yes h hn with h | h | h | h
  · have e0 := hg 0 (by omega)
    exact .inl ⟨h.1, by omega⟩
  · have e0 := hg 0 (by omega)
    have e1 := hg 1 (by omega)
    exact .inr (.inl (by omega))
  · have e0 := hg 0 (by omega)
    have e1 := hg 1 (by omega)
    have e2 := hg 2 (by omega)
    refine .inr (.inr (.inl ?_))
    rw [e0, e1, e2]
    exact ⟨h.1, by omega, h.2.2⟩
  · have e0 := hg 0 (by omega)
    have e1 := hg 1 (by omega)
    have e2 := hg 2 (by omega)
    have e3 := hg 3 (by omega)
    refine .inr (.inr (.inr ?_))
    rw [e0, e1, e2, e3]
    exact ⟨h.1, by omega, h.2.2⟩

theorem len_pos {l : List UInt8} (h : l ≠ []) : 1 ≤ l.length := List.length_pos_iff.2 h

/-- How a step of the quoted form looks: a short escape, a long one, or raw bytes that read as one whole rune. -/
theorem esc_shape {r : List UInt8} (h : r ≠ []) (rest : List UInt8) :
    (∃ b : UInt8, (b.toNat = 34 ∨ b.toNat = 92) ∧ esc r = [92, b] ∧ san r = [b]) ∨
    (∃ b : UInt8, (b.toNat < 32 ∨ b.toNat = 127) ∧ esc r = [92, 117, 48, 48, hexd (b.toNat / 16), hexd (b.toNat % 16)] ∧ san r = [b]) ∨
    (zl (esc r ++ rest) = ((esc r).length, true) ∧ san r = esc r ∧ gl (esc r) 0 ≠ 92 ∧ gl (esc r) 0 ≠ 34 ∧ 32 ≤ gl (esc r) 0 ∧ gl (esc r) 0 ≠ 127 ∧ 1 ≤ (esc r).length) := by
  have hl := len_pos h
  have hw := zl_w h
  cases e : (zl r).2
  · have E : esc r = [239, 191, 189] := by unfold esc; rw [e]; rfl
    have S : san r = [239, 191, 189] := by unfold san; rw [e]; rfl
    rw [E, S]
    refine .inr (.inr ⟨?_, rfl, by decide, by decide, by decide, by decide, by decide⟩)
    refine zz_of_yes (.inr (.inr (.inl ⟨rfl, by simp, ?_⟩)))
    simp [gl]
  · have hz : zz r.length (gl r) = ((zl r).1, true) := Prod.ext rfl e
    by_cases c : (zl r).1 = 1
    · have h128 : gl r 0 < 128 := by rcases zz_yes hz hl with h | h | h | h <;> omega
      obtain ⟨b, t, rfl⟩ : ∃ b t, r = b :: t := by
        cases r with
        | nil => exact absurd rfl h
        | cons b t => exact ⟨b, t, rfl⟩
      have hb : b.toNat < 128 := by simpa [gl] using h128
      have E : esc (b :: t) = escB b := by unfold esc; rw [e, c]; rfl
      have S : san (b :: t) = [b] := by unfold san; rw [e, c]; rfl
      rw [E, S]
      by_cases c1 : b.toNat = 34 ∨ b.toNat = 92
      · exact .inl ⟨b, c1, by unfold escB; rw [if_pos c1], rfl⟩
      · by_cases c2 : b.toNat < 32 ∨ b.toNat = 127
        · exact .inr (.inl ⟨b, c2, by unfold escB; rw [if_neg c1, if_pos c2], rfl⟩)
        · have E2 : escB b = [b] := by unfold escB; rw [if_neg c1, if_neg c2]
          rw [E2]
          have hg : gl [b] 0 = b.toNat := rfl
          refine .inr (.inr ⟨zz_of_yes (.inl ⟨rfl, by simpa [gl] using hb⟩), rfl, ?_, ?_, ?_, ?_, by simp⟩) <;> rw [hg] <;> omega
    · have E : esc r = r.take (zl r).1 := by unfold esc; rw [e, if_neg c]; rfl
      have S : san r = r.take (zl r).1 := by unfold san; rw [e]; rfl
      rw [E, S]
      have hlen : (r.take (zl r).1).length = (zl r).1 := by rw [List.length_take]; omega
      have hg : ∀ k, k < (zl r).1 → gl (r.take (zl r).1 ++ rest) k = gl r k := fun k hk => by
        unfold gl
        rw [List.getD_eq_getElem?_getD, List.getD_eq_getElem?_getD, List.getElem?_append_left (by omega), List.getElem?_take_of_lt hk]
      have hg0 : gl (r.take (zl r).1) 0 = gl r 0 := by
        unfold gl
        rw [List.getD_eq_getElem?_getD, List.getD_eq_getElem?_getD, List.getElem?_take_of_lt (by omega)]
      have h194 : 194 ≤ gl r 0 := by rcases zz_yes hz hl with h | h | h | h <;> omega
      refine .inr (.inr ⟨?_, rfl, by omega, by omega, by omega, by omega, by omega⟩)
      rw [hlen]
      exact zz_move hz hl (by rw [List.length_append]; omega) hg

theorem body_nil_iff {r : List UInt8} (h : r ≠ []) : 1 ≤ (body r).length := by
  rw [body_cons h, List.length_append]
  rcases esc_shape h [] with ⟨b, _, e, _⟩ | ⟨b, _, e, _⟩ | h
  · rw [e]; simp; omega
  · rw [e]; simp; omega
  · omega

end Go.Proofs.Qxb6601730a.Utf

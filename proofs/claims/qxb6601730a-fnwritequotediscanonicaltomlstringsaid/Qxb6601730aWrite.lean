/-
  The walk of writeQuoted and ZZQuoteAfter, over the builder's contracts.
-/
import Derived.Test.Qxb6601730aBuilder
import Derived.Test.Qxb6601730aShelf
import Derived.Test.Qxb6601730aQuote
import Derived.BigCall
set_option linter.unusedVariables false
namespace Go.Proofs.Qxb6601730a
open Go.RowKit Go.Proofs.Qxb6601730a.Utf

/-- The writers' contracts, on bytes. -/
theorem putByte {B b : Nat} {acc : List UInt8} (u : UInt8) {c : Int} (w : World) (h : Lib.IsBuilderF 38 5 B b (Lib.byteCells acc) w) (hc : c = (u.toNat : Int)) (hlen : acc.length + 1 ≤ 140737488355328) (hBw : B ≤ w.heap.size) :
    Calls Try.prog 27 #[.pointer (some ⟨b, 0, none⟩), .int .u8 c] w fun e w' => e = .returned .nilIface ∧ Lib.IsBuilderF 38 5 B b (Lib.byteCells (acc ++ [u])) w' ∧ Below B w w' ∧ Lib.OthersKept 5 (some b) w w' := by
  refine (writeByte_k B b _ c w h (by rw [Lib.byteCells_length]; omega) hBw).mono ?_
  rintro e w' ⟨rfl, h1, h2, h3⟩
  refine ⟨rfl, ?_, h2, h3⟩
  rw [Lib.byteCells_append, show Lib.byteCells [u] = [.int .u8 c] by rw [hc]; rfl]
  exact Or.inr h1
theorem putString {B b : Nat} {acc : List UInt8} (s : ByteArray) (w : World) (h : Lib.IsBuilderF 38 5 B b (Lib.byteCells acc) w) (hlen : acc.length + s.size ≤ 140737488355328) (hBw : B ≤ w.heap.size) :
    Calls Try.prog 20 #[.pointer (some ⟨b, 0, none⟩), .string s] w fun e w' => e = .returned (.tuple #[.int .i64 s.size, .nilIface]) ∧ Lib.IsBuilderF 38 5 B b (Lib.byteCells (acc ++ s.data.toList)) w' ∧ Below B w w' ∧ Lib.OthersKept 5 (some b) w w' := by
  refine (writeString_k B b _ s w h (by rw [Lib.byteCells_length]; omega) hBw).mono ?_
  rintro e w' ⟨rfl, h1, h2, h3⟩
  refine ⟨rfl, ?_, h2, h3⟩
  rw [Lib.byteCells_append]
  exact Or.inr h1
theorem putRune {B b : Nat} {acc : List UInt8} {r : Int} (hr : IsRune r) (w : World) (h : Lib.IsBuilderF 38 5 B b (Lib.byteCells acc) w) (hlen : acc.length + 4 ≤ 140737488355328) (hBw : B ≤ w.heap.size) :
    Calls Try.prog 28 #[.pointer (some ⟨b, 0, none⟩), .int .i32 r] w fun e w' => e = .returned (.tuple #[.int .i64 (Lib.runeCells r).length, .nilIface]) ∧ Lib.IsBuilderF 38 5 B b (Lib.byteCells (acc ++ Lib.encodeRune r)) w' ∧ Below B w w' ∧ Lib.OthersKept 5 (some b) w w' := by
  refine (writeRune_k B b _ r hr w h (by rw [Lib.byteCells_length]; omega) hBw).mono ?_
  rintro e w' ⟨rfl, h1, h2, h3⟩
  refine ⟨rfl, ?_, h2, h3⟩
  rw [Lib.byteCells_append, Lib.byteCells_encodeRune]
  exact Or.inr h1

theorem hex_at (k : Nat) (hk : k < (⟨#[48, 49, 50, 51, 52, 53, 54, 55, 56, 57, 65, 66, 67, 68, 69, 70]⟩ : ByteArray).size) : ((⟨#[48, 49, 50, 51, 52, 53, 54, 55, 56, 57, 65, 66, 67, 68, 69, 70]⟩ : ByteArray)[k]'hk).toNat = (hexd k).toNat := by
  have h16 : k < 16 := hk
  have : k = 0 ∨ k = 1 ∨ k = 2 ∨ k = 3 ∨ k = 4 ∨ k = 5 ∨ k = 6 ∨ k = 7 ∨ k = 8 ∨ k = 9 ∨ k = 10 ∨ k = 11 ∨ k = 12 ∨ k = 13 ∨ k = 14 ∨ k = 15 := by omega
  rcases this with h | h | h | h | h | h | h | h | h | h | h | h | h | h | h | h <;> subst h <;> rfl

theorem and15_fin : ∀ r : Fin 128, bits BinOp.and IntKind.i32 ((r.val : Nat) : Int) 15 = ((r.val % 16 : Nat) : Int) := by decide +kernel
theorem and15 (r : Nat) (h : r < 128) : bits BinOp.and IntKind.i32 (r : Int) 15 = ((r % 16 : Nat) : Int) := and15_fin ⟨r, h⟩

theorem escR_le (r : Nat) : (escR r).length ≤ 6 := by
  unfold escR
  split
  · unfold escB
    split
    · simp
    · split <;> simp
  · have := Lib.runeCells_le (r : Int)
    rw [Lib.runeCells_length] at this
    omega
theorem escR_hex (r : Nat) (h : r < 32 ∨ r = 127) : escR r = [92, 117, 48, 48] ++ [hexd (r / 16)] ++ [hexd (r % 16)] := by
  have e : (UInt8.ofNat r).toNat = r := by simp; omega
  unfold escR
  rw [if_pos (by omega)]
  unfold escB
  rw [e, if_neg (by omega), if_pos h]
  rfl
theorem escR_raw (r : Nat) (h : r ≠ 34 ∧ r ≠ 92 ∧ ¬ r < 32 ∧ r ≠ 127) : escR r = Lib.encodeRune r := by
  unfold escR
  split
  · have e : (UInt8.ofNat r).toNat = r := by simp; omega
    unfold escB
    rw [e, if_neg (by omega), if_neg (by omega)]
    unfold Lib.encodeRune
    rw [Lib.encodeRuneZ_one (by omega) (by omega)]
    simp
  · rfl

theorem quoted_step {s : ByteArray} {pos p2 r : Nat} {ac acc : List UInt8} (hp : pos < s.size) (h1 : escR r = esc (s.data.toList.drop pos)) (h2 : p2 = pos + (zl (s.data.toList.drop pos)).1)
    (h3 : ac ++ body (s.data.toList.drop pos) = acc ++ [34] ++ body s.data.toList) (h4 : ac.length ≤ acc.length + 1 + 6 * pos) :
    ac ++ escR r ++ body (s.data.toList.drop p2) = acc ++ [34] ++ body s.data.toList ∧ (ac ++ escR r).length ≤ acc.length + 1 + 6 * p2 ∧ p2 ≤ s.size ∧ pos < p2 := by
  have hlen := len_drop s pos
  have hne : s.data.toList.drop pos ≠ [] := by
    intro hh
    rw [hh] at hlen
    simp at hlen
    omega
  have hw := zl_w hne
  have he := escR_le r
  refine ⟨?_, by rw [List.length_append]; omega, by omega, by omega⟩
  rw [← h3, body_cons hne, List.drop_drop, ← h2, h1, List.append_assoc]

set_option maxHeartbeats 1000000 in
set_option maxRecDepth 100000 in
theorem quoted (B b : Nat) (acc : List UInt8) (s : ByteArray) (w : World) (h : Lib.IsBuilderF 38 5 B b (Lib.byteCells acc) w) (hlen : acc.length ≤ 1099511627776) (hs : s.size ≤ 1099511627776) (hBw : B ≤ w.heap.size) (hBb : B ≤ b) (hbw : b < w.heap.size) :
    Calls Try.prog 21 #[.pointer (some ⟨b, 0, none⟩), .string s] w fun e w' => e = .returned (.tuple #[]) ∧ Lib.IsBuilderF 38 5 B b (Lib.byteCells (acc ++ ([34] ++ body s.data.toList ++ [34]))) w' ∧ Below B w w' := by
  go_enter Try.func21, Try.ntmps21
  go_wp2_with (go_at_call 27; refine (putByte 34 _ h rfl (by omega) hBw).mono ?_; rintro e W0 ⟨rfl, h0', b0, k0⟩)
  have hsz0 := b0.size
  go_loopw [] (fun wr => ∃ (pos : Nat) (ac : List UInt8), Lib.IsBuilderF 38 5 B b (Lib.byteCells ac) wr ∧ wr.heap[W0.heap.size]? = some (.stringIter s pos) ∧ Below B w wr ∧ Hid (ac ++ body (s.data.toList.drop pos) = acc ++ [34] ++ body s.data.toList) ∧ ac.length ≤ acc.length + 1 + 6 * pos ∧ pos ≤ s.size) (fun wr => s.size - wr.iterPos W0.heap.size)
  case atStart =>
    refine ⟨0, acc ++ [34], h0'.alloc _, ?_, b0.alloc (by omega) _, ?_, by simp, Nat.zero_le _⟩
    · have := World.iter_heap W0 s 0
      simpa using this
    · show _ = _
      simp
  case round =>
    obtain ⟨pos, ac, hI, hit, hbl, hacc, hal, hps⟩ := hrel
    have hsz : W0.heap.size < wr.heap.size := (Array.getElem?_eq_some_iff.1 hit).1
    have hkb : W0.heap.size ≠ b := by omega
    by_cases hp : pos < s.size
    · have hnx : ∀ ty, (Instr.next (.pointer (some ⟨W0.heap.size, 0, none⟩)) true ty).run Try.prog wr = _ := fun ty => Lib.run_next_any_at wr W0.heap.size s pos ty hit hp
      obtain ⟨d1, d2, d3, d4⟩ := decode_esc s pos hp
      obtain ⟨r, hr⟩ : ∃ r, (Utf8.decode s pos).1 = r := ⟨_, rfl⟩
      obtain ⟨p2, hp2⟩ : ∃ p, pos + (Utf8.decode s pos).2 = p := ⟨_, rfl⟩
      rw [hr, hp2] at hnx
      have hI2 := hI.iterAt hit p2
      have hit2 := Lib.iterAt_heap wr W0.heap.size s pos p2 hit
      have hbl2 := Lib.below_iterAt hbl (k := W0.heap.size) (by omega) s p2
      have hsz2 : B ≤ (wr.iterAt W0.heap.size s p2).heap.size := by rw [Lib.iterAt_size]; omega
      have HX : Hid (escR r = esc (s.data.toList.drop pos) ∧ p2 = pos + (zl (s.data.toList.drop pos)).1 ∧ IsRune r) := by
        rw [hr] at d1 d3 d4
        refine ⟨d1, by rw [← d2]; exact hp2.symm, by omega, by omega, by omega⟩
      clear d1 d2 d3 d4 hp2 hr
      have hrb : r ≤ 1114111 := by have := HX.out.2.2.2.1; omega
      have fin := quoted_step (s := s) (pos := pos) (p2 := p2) (r := r) (ac := ac) (acc := acc) hp HX.out.1 HX.out.2.1 hacc.out hal
      have FIN : Hid (Hid (ac ++ escR r ++ body (s.data.toList.drop p2) = acc ++ [34] ++ body s.data.toList) ∧ (ac ++ escR r).length ≤ acc.length + 1 + 6 * p2 ∧ p2 ≤ s.size ∧ pos < p2) := fin
      clear fin hacc
      rcases (show (((r : Int) == 34) = true ∧ r = 34) ∨ (((r : Int) == 34) = false ∧ ((r : Int) == 92) = true ∧ r = 92) ∨ (((r : Int) == 34) = false ∧ ((r : Int) == 92) = false ∧ r < 32) ∨ (((r : Int) == 34) = false ∧ ((r : Int) == 92) = false ∧ decide ((r : Int) < 32) = false ∧ ((r : Int) == 127) = true ∧ r = 127) ∨ (((r : Int) == 34) = false ∧ ((r : Int) == 92) = false ∧ decide ((r : Int) < 32) = false ∧ ((r : Int) == 127) = false ∧ Hid (r ≠ 34 ∧ r ≠ 92 ∧ ¬ r < 32 ∧ r ≠ 127)) by unfold Hid; simp; omega) with ⟨q1, rfl⟩ | ⟨q1, q2, rfl⟩ | ⟨q1, q2, q3⟩ | ⟨q1, q2, q3, q4, rfl⟩ | ⟨q1, q2, q3, q4, q5⟩
      · clear q1
        have he : [92] ++ Lib.encodeRune 34 = escR 34 := by decide
        go_wp2_with (go_at_call 27; refine (putByte 92 _ hI2 rfl (by omega) hsz2).mono ?_; rintro e W1 ⟨rfl, h1, b1, k1⟩)
        have hs1 := b1.size
        refine (putRune HX.out.2.2 _ h1 (by simp; omega) (by omega)).mono ?_
        rintro e W2 ⟨rfl, h2, b2, k2⟩
        have hit3 := k2.iter (k1.iter hit2 hkb) hkb
        have h3 : Lib.IsBuilderF 38 5 B b (Lib.byteCells (ac ++ escR 34)) W2 := by rw [← he, ← List.append_assoc]; exact h2
        go_wp2
        go_roundw
        case rel => exact ⟨p2, _, h3, hit3, (hbl2.trans b1).trans b2, FIN.out.1, FIN.out.2.1, FIN.out.2.2.1⟩
        case measure =>
          have := FIN.out.2.2
          simp only [World.iterPos, hit3, hit]
          omega
      · clear q1 q2
        have he : [92] ++ Lib.encodeRune 92 = escR 92 := by decide
        go_wp2_with (go_at_call 27; refine (putByte 92 _ hI2 rfl (by omega) hsz2).mono ?_; rintro e W1 ⟨rfl, h1, b1, k1⟩)
        have hs1 := b1.size
        refine (putRune HX.out.2.2 _ h1 (by simp; omega) (by omega)).mono ?_
        rintro e W2 ⟨rfl, h2, b2, k2⟩
        have hit3 := k2.iter (k1.iter hit2 hkb) hkb
        have h3 : Lib.IsBuilderF 38 5 B b (Lib.byteCells (ac ++ escR 92)) W2 := by rw [← he, ← List.append_assoc]; exact h2
        go_wp2
        go_roundw
        case rel => exact ⟨p2, _, h3, hit3, (hbl2.trans b1).trans b2, FIN.out.1, FIN.out.2.1, FIN.out.2.2.1⟩
        case measure =>
          have := FIN.out.2.2
          simp only [World.iterPos, hit3, hit]
          omega
      · have he := escR_hex r (by omega)
        have HE : Hid (escR r = [92, 117, 48, 48] ++ [hexd (r / 16)] ++ [hexd (r % 16)]) := he
        clear he
        go_wp2_with (go_at_call 20; refine (putString ⟨#[92, 117, 48, 48]⟩ _ hI2 (by show _ + 4 ≤ _; omega) hsz2).mono ?_; rintro e W1 ⟨rfl, h1, b1, k1⟩)
        have hs1 := b1.size
        have h15 := and15 r (by omega)
        go_wp2_with fail
        refine (putByte (hexd (r / 16)) _ h1 ?_ ?_ ?_).mono ?_
        · first | rfl | rw [hex_at]
        · show (ac ++ [92, 117, 48, 48]).length + 1 ≤ _
          simp; omega
        · omega
        rintro e W2 ⟨rfl, h2, b2, k2⟩
        have hs2 := b2.size
        go_wp2_with fail
        refine (putByte (hexd (r % 16)) _ h2 ?_ ?_ ?_).mono ?_
        · first | rfl | rw [hex_at]
        · show (ac ++ [92, 117, 48, 48] ++ [hexd (r / 16)]).length + 1 ≤ _
          simp; omega
        · omega
        rintro e W3 ⟨rfl, h3, b3, k3⟩
        have hit3 := k3.iter (k2.iter (k1.iter hit2 hkb) hkb) hkb
        have h4 : Lib.IsBuilderF 38 5 B b (Lib.byteCells (ac ++ escR r)) W3 := by rw [HE.out, ← List.append_assoc, ← List.append_assoc]; exact h3
        go_wp2
        go_roundw
        case rel => exact ⟨p2, _, h4, hit3, ((hbl2.trans b1).trans b2).trans b3, FIN.out.1, FIN.out.2.1, FIN.out.2.2.1⟩
        case measure =>
          have := FIN.out.2.2
          simp only [World.iterPos, hit3, hit]
          omega
      · have he := escR_hex 127 (by omega)
        have HE : Hid (escR 127 = [92, 117, 48, 48] ++ [hexd (127 / 16)] ++ [hexd (127 % 16)]) := he
        clear he
        go_wp2_with (go_at_call 20; refine (putString ⟨#[92, 117, 48, 48]⟩ _ hI2 (by show _ + 4 ≤ _; omega) hsz2).mono ?_; rintro e W1 ⟨rfl, h1, b1, k1⟩)
        have hs1 := b1.size
        have h15 := and15 127 (by omega)
        go_wp2_with fail
        refine (putByte (hexd (127 / 16)) _ h1 ?_ ?_ ?_).mono ?_
        · first | rfl | rw [hex_at]
        · show (ac ++ [92, 117, 48, 48]).length + 1 ≤ _
          simp; omega
        · omega
        rintro e W2 ⟨rfl, h2, b2, k2⟩
        have hs2 := b2.size
        go_wp2_with fail
        refine (putByte (hexd (127 % 16)) _ h2 ?_ ?_ ?_).mono ?_
        · first | rfl | rw [hex_at]
        · show (ac ++ [92, 117, 48, 48] ++ [hexd (127 / 16)]).length + 1 ≤ _
          simp; omega
        · omega
        rintro e W3 ⟨rfl, h3, b3, k3⟩
        have hit3 := k3.iter (k2.iter (k1.iter hit2 hkb) hkb) hkb
        have h4 : Lib.IsBuilderF 38 5 B b (Lib.byteCells (ac ++ escR 127)) W3 := by rw [HE.out, ← List.append_assoc, ← List.append_assoc]; exact h3
        go_wp2
        go_roundw
        case rel => exact ⟨p2, _, h4, hit3, ((hbl2.trans b1).trans b2).trans b3, FIN.out.1, FIN.out.2.1, FIN.out.2.2.1⟩
        case measure =>
          have := FIN.out.2.2
          simp only [World.iterPos, hit3, hit]
          omega
      · have he := escR_raw r q5.out
        have HE : Hid (escR r = Lib.encodeRune r) := he
        clear he
        go_wp2_with (go_at_call 28; refine (putRune HX.out.2.2 _ hI2 (by omega) hsz2).mono ?_; rintro e W1 ⟨rfl, h1, b1, k1⟩)
        have hit3 := k1.iter hit2 hkb
        have h4 : Lib.IsBuilderF 38 5 B b (Lib.byteCells (ac ++ escR r)) W1 := by rw [HE.out]; exact h1
        go_roundw
        case rel => exact ⟨p2, _, h4, hit3, hbl2.trans b1, FIN.out.1, FIN.out.2.1, FIN.out.2.2.1⟩
        case measure =>
          have := FIN.out.2.2
          simp only [World.iterPos, hit3, hit]
          omega
    · have hnx : ∀ ty, (Instr.next (.pointer (some ⟨W0.heap.size, 0, none⟩)) true ty).run Try.prog wr = _ := fun ty => Lib.run_next_end_at wr W0.heap.size s pos ty hit hp
      have hdr : s.data.toList.drop pos = [] := List.drop_eq_nil_of_le (by show s.size ≤ pos; omega)
      have he : ac = acc ++ [34] ++ body s.data.toList := by
        have := hacc.out
        rw [hdr, body_nil, List.append_nil] at this
        exact this
      have HE : Hid (ac = acc ++ [34] ++ body s.data.toList) := he
      clear he hdr hacc
      go_wp2_with (go_at_call 27; refine (putByte 34 _ hI rfl (by omega) (by omega)).mono ?_; rintro e W1 ⟨rfl, h1, b1, k1⟩)
      go_end0
      refine ⟨rfl, ?_, hbl.trans b1⟩
      rw [HE.out] at h1
      simpa using h1

/-- The quoted form. -/
def quote (l : List UInt8) : List UInt8 := [34] ++ body l ++ [34]

set_option maxHeartbeats 1000000 in
set_option maxRecDepth 100000 in
theorem quoteAfter (p s : ByteArray) (w : World) (hp : p.size ≤ 1073741824) (hs : s.size ≤ 1073741824) :
    Calls Try.prog 8 #[.string p, .string s] w fun e w' => e = .returned (.string ⟨(p.data.toList ++ quote s.data.toList).toArray⟩) ∧ Below w.heap.size w w' := by
  have hfr := Lib.IsBuilderF.of (Lib.fresh_isBuilder 38 5 w)
  have hpl : p.data.toList.length = p.size := rfl
  go_enter Try.func8, Try.ntmps8
  go_wp2_with (go_at_call 20; refine (putString (acc := []) p _ hfr (by simp; omega) (by simp)).mono ?_; rintro e W1 ⟨rfl, h1, b1, k1⟩)
  have hs1 := b1.size
  simp at hs1
  refine (quoted w.heap.size w.heap.size p.data.toList s _ (by simpa using h1) (by omega) (by omega) (by omega) (by omega) (by omega)).mono ?_
  rintro e W2 ⟨rfl, h2, b2⟩
  have hs2 := b2.size
  go_wp2_with (go_at_call 22; refine (builderString w.heap.size w.heap.size _ _ h2 (by omega)).mono ?_; rintro e W3 ⟨rfl, h3, b3, k3⟩)
  go_ret
  exact ⟨rfl, ((((Below.refl _ w).alloc (Nat.le_refl _) _).trans b1).trans b2).trans b3⟩

theorem quote_length (l : List UInt8) : (quote l).length = (body l).length + 2 := by simp [quote]

end Go.Proofs.Qxb6601730a

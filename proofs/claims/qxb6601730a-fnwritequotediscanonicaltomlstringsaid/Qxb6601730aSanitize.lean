/-
  zzSanitize computes Utf.clean.
-/
import Derived.Test.Qxb6601730aValid
import Derived.Test.Qxb6601730aBuilder
import Derived.Lib.IndexBytes
set_option linter.unusedVariables false
namespace Go.Proofs.Qxb6601730a
open Go.RowKit Go.Proofs.Qxb6601730a.Utf

/-- 'string(out)', out a row of the call's own. -/
theorem run_string_own {w : World} {B : Nat} {v : Value} {l : List UInt8} (h : w.ownsRowF B 5 1 v l.length (Lib.byteCells l)) :
    (convert 28 9 v).run Try.prog w = .ok (.string ⟨l.toArray⟩) w := by
  rcases h.2 with ⟨hv, h0⟩ | ⟨g, cap, cur, fz, hv, _, hg, _, _, _, _, ht⟩
  · have : l = [] := List.eq_nil_of_length_eq_zero h0
    subst this
    rw [hv]
    exact run_convert_bytes_nil (P := Try.prog) w 28 5 Try.underlying28 Try.underlying5 0 0 9 Try.underlying9
  · have e : (⟨l.toArray⟩ : ByteArray) = strOfNums (l.map fun x => (x.toNat : Int)) := by
      have e0 : (fun n : Int => UInt8.ofNat n.toNat) ∘ (fun x : UInt8 => (x.toNat : Int)) = id := funext fun x => by simp
      unfold strOfNums
      rw [List.map_map, e0, List.map_id]
    have hc := h.cells (g := g) (by rw [hv]; rfl)
    rw [hv, e]
    refine run_convert_bytes_arg (P := Try.prog) w 28 5 Try.underlying28 Try.underlying5 g 0 l.length cap _ (by simp) (fun i hi => ?_) 9 Try.underlying9
    have h1 := hc i (.int .u8 (l[i]'hi).toNat) (by simp [Lib.byteCells, hi])
    have hadd : (⟨g, 0, none⟩ : Addr).add i = ⟨g, 0 + i, none⟩ := by unfold Addr.add; split <;> simp_all
    rw [hadd] at h1
    rw [h1]
    simp [hi]

theorem strCells_extract (s : ByteArray) (k n : Nat) : Lib.strCells (s.extract k (k + n)) = Lib.byteCells ((s.data.toList.drop k).take n) := by
  rw [Lib.strCells_eq, Lib.extract_data]
  congr 2
  omega
theorem extract_size (s : ByteArray) (k n : Nat) (h : k + n ≤ s.size) : (s.extract k (k + n)).size = n := by
  have : (s.extract k (k + n)).size = (s.extract k (k + n)).data.toList.length := rfl
  rw [this, Lib.extract_data, List.length_take, List.length_drop]
  have : s.data.toList.length = s.size := rfl
  omega

theorem clean_step {s : ByteArray} {k : Nat} {l : List UInt8} (hk : k < s.size) (h : l ++ clean (s.data.toList.drop k) = clean s.data.toList) :
    l ++ san (s.data.toList.drop k) ++ clean (s.data.toList.drop (k + (zl (s.data.toList.drop k)).1)) = clean s.data.toList := by
  rw [← h, clean_cons (drop_ne hk), List.drop_drop, List.append_assoc]

set_option maxHeartbeats 1000000 in
set_option maxRecDepth 100000 in
theorem sanitize_any (s : ByteArray) (w : World) (hs : s.size ≤ 1073741824) :
    Calls Try.prog 10 #[.string s] w fun e w' => e = .returned (.string ⟨(clean s.data.toList).toArray⟩) ∧ Below w.heap.size w w' := by
  obtain ⟨i0, hi, hz0, hz1, hz2⟩ := info_parts Try.infoByte
  go_enter Try.func10, Try.ntmps10
  go_wp2_with (at_make; refine wpList_make_own _ rfl _ _ 28 rfl w.heap.size 5 i0 (.int .u8 0) 1 Try.underlying28 hi hz0 hz1 .i64 .i64 _ s.size rfl rfl rfl (by rw [hz2]; omega) (by unfold maxLen; omega) (Nat.le_refl _) ?_; intro w0 hown0 hgrow0)
  have hb0 : Below w.heap.size w w0 := (Below.refl _ w).grown hgrow0 (Nat.le_refl _) (by intro k hk; cases hk)
  go_loopw [3, 4] (fun v i wr => ∃ (k : Nat) (l : List UInt8), i = .int .i64 k ∧ k ≤ s.size ∧ wr.ownsRowF w.heap.size 5 1 v l.length (Lib.byteCells l) ∧ Below w.heap.size w wr ∧ Hid (l ++ clean (s.data.toList.drop k) = clean s.data.toList) ∧ l.length ≤ 3 * k) (fun _ i _ => s.size - (intOf i).toNat)
  case atStart => exact ⟨0, [], rfl, Nat.zero_le _, World.ownsRowF_of hown0, hb0, by show _ = _; simp, by simp⟩
  case round =>
    obtain ⟨k, l, rfl, hk, hown, hb, hcl, hl⟩ := hrel
    have hsz := hb.size
    by_cases hlt : k < s.size
    · have hw := zl_w (drop_ne hlt)
      have hlen := len_drop s k
      have hst := clean_step hlt hcl.out
      have hd := dec_any s k wr (by omega) hlt
      have hno : (zl (s.data.toList.drop k)).2 = false → (zl (s.data.toList.drop k)).1 = 1 := fun e => by rw [show zl (s.data.toList.drop k) = (1, false) from zz_no e]
      have hsan : san (s.data.toList.drop k) = if (zl (s.data.toList.drop k)).2 then (s.data.toList.drop k).take (zl (s.data.toList.drop k)).1 else [239, 191, 189] := rfl
      rw [hsan] at hst
      clear hsan hcl
      rw [hlen] at hw
      generalize zl (s.data.toList.drop k) = z at *
      obtain ⟨n, ok⟩ := z
      simp only at hw hst hno
      have HD : Hid (Calls Try.prog 24 #[.string s, .int .i64 k] wr fun e w' => e = .returned (.tuple #[.int .i64 n, .bool ok]) ∧ wr = w') := hd
      clear hd
      cases ok
      · have hn1 := hno rfl
        subst hn1
        have HS : Hid (l ++ [239, 191, 189] ++ clean (s.data.toList.drop (k + 1)) = clean s.data.toList) := hst
        clear hst hno hlen
        go_wp2_with (first | (go_at_call 24; refine HD.out.mono ?_; rintro e w' ⟨rfl, rfl⟩) | (at_builtin; refine wpList_append_ownF _ rfl (.tmp 29) (.tmp 30) 28 rfl w.heap.size 5 i0 (.int .u8 0) 1 1 Try.underlying28 hi hz0 hz1 hz2 rfl (by decide) _ _ _ rfl (hown.alloc _) ⟨wr.heap.size, 0, none⟩ 3 3 [.int .u8 239, .int .u8 191, .int .u8 189] rfl rfl ?c1 ?c2 ?c3 ?c4 ?c5 ?_))
        case c1 =>
          intro j u hj
          match j, hj with
          | 0, hj => simp at hj; subst hj; simp [Addr.add]
          | 1, hj => simp at hj; subst hj; simp [Addr.add]
          | 2, hj => simp at hj; subst hj; simp [Addr.add]
          | (j + 3), hj => simp at hj
        case c2 => intro u hu; simp at hu; rcases hu with rfl | rfl | rfl <;> rfl
        case c3 => unfold maxLen; omega
        case c4 => omega
        case c5 => simp; omega
        intro v' w2 hown' hgrow _
        have hb2 := (hb.alloc hsz _).grown hgrow (by simp; omega) (fun k hk => (hown.lt k hk).1)
        go_wp2
        go_roundw
        case rel => exact ⟨k + 1, l ++ [239, 191, 189], by go_num, by omega, by simpa [Lib.byteCells] using hown', hb2, HS, by simp; omega⟩
        case measure => simp [intOf]; omega
      · clear hno
        have HS : Hid (l ++ (s.data.toList.drop k).take n ++ clean (s.data.toList.drop (k + n)) = clean s.data.toList) := hst
        have hes := extract_size s k n (by omega)
        have hec := strCells_extract s k n
        have HES : Hid ((s.extract k (k + n)).size = n) := hes
        have HEC : Hid (Lib.strCells (s.extract k (k + n)) = Lib.byteCells ((s.data.toList.drop k).take n)) := hec
        have HTL : Hid (((s.data.toList.drop k).take n).length = n) := by show _ = _; rw [List.length_take]; omega
        clear hst hlen hes hec
        go_wp2_with (first | (go_at_call 24; refine HD.out.mono ?_; rintro e w' ⟨rfl, rfl⟩) | (at_builtin; refine Lib.wpList_append_own_stringF _ rfl (.tmp 21) (.tmp 27) 28 9 rfl w.heap.size 5 i0 Try.underlying28 Try.underlying9 hi hz0 hz1 hz2 _ _ _ rfl hown (s.extract k (k + n)) rfl ?d3 ?d4 ?d5 ?_))
        case d3 => rw [HES.out]; unfold maxLen; omega
        case d4 => rw [HES.out]; omega
        case d5 => omega
        intro v' w2 hown' hgrow _
        rw [show min (k + n) s.size - k = n by omega, HEC.out, ← Lib.byteCells_append] at hown'
        have hb2 := hb.grown hgrow hsz (fun k hk => (hown.lt k hk).1)
        have hll : (l ++ (s.data.toList.drop k).take n).length = l.length + n := by rw [List.length_append, HTL.out]
        go_wp2
        go_roundw
        case rel => exact ⟨k + n, l ++ (s.data.toList.drop k).take n, by go_num, by omega, by rw [hll]; exact hown', hb2, HS, by rw [hll]; omega⟩
        case measure => simp [intOf]; omega
    · have hcv := run_string_own hown
      have hdr : s.data.toList.drop k = [] := List.drop_eq_nil_of_le (by show s.size ≤ k; omega)
      have he : l = clean s.data.toList := by
        have := hcl.out
        rw [hdr, clean_nil, List.append_nil] at this
        exact this
      have HE : Hid (l = clean s.data.toList) := he
      clear he hdr hcl
      go_wp2
      go_ret
      rw [← HE.out]
      exact ⟨rfl, hb⟩

end Go.Proofs.Qxb6601730a

/-
  zzUpperHex; zzCanonUnquote at the quoted form.
-/
import Derived.Test.Qxb6601730aSanitize
import Derived.Test.Qxb6601730aCanonPlain
set_option linter.unusedVariables false
namespace Go.Proofs.Qxb6601730a
open Go.RowKit Go.Proofs.Qxb6601730a.Utf

theorem hexd_val (k : Nat) (h : k < 16) : ((hexd k).toNat = 48 + k ∧ k < 10) ∨ ((hexd k).toNat = 55 + k ∧ 10 ≤ k) := by
  unfold hexd
  by_cases c : k < 10
  · rw [if_pos c]; left; simp; omega
  · rw [if_neg c]; right; simp; omega

theorem upper_any (c : Int) (k : Nat) (h : (c = 48 + k ∧ k < 10) ∨ (c = 55 + k ∧ 10 ≤ k ∧ k < 16)) (w : World) :
    Calls Try.prog 23 #[.int .u8 c] w fun e w' => e = .returned (.tuple #[.int .u8 k, .bool true]) ∧ w = w' := by
  rcases h with ⟨rfl, h⟩ | ⟨rfl, h1, h2⟩
  · go_enter Try.func23, Try.ntmps23
    go_wp2
    go_ret2
    refine ⟨?_, rfl⟩
    show Ending.returned (.tuple #[.int .u8 (48 + (k : Int) - 48), .bool true]) = _
    rw [show (48 + (k : Int) - 48) = k by omega]
  · have d1 : decide ((55 : Int) + (k : Int) ≤ 57) = false := by simp; omega
    go_enter Try.func23, Try.ntmps23
    go_wp2
    go_ret2
    refine ⟨?_, rfl⟩
    show Ending.returned (.tuple #[.int .u8 (55 + (k : Int) - 65 + 10), .bool true]) = _
    rw [show (55 + (k : Int) - 65 + 10) = k by omega]

/-- A byte of T, by what lies ahead of place k. -/
theorem byte_at {T : ByteArray} {k j : Nat} {l : List UInt8} (h : T.data.toList.drop k = l) (hj : k + j < T.size) : (T[k + j]'hj).toNat = gl l j := by
  rw [← h, ← gs_drop, gs_at]

/-- One step of the quoted form, behind place k of T. -/
theorem un_step {T : ByteArray} {k : Nat} {r m l : List UInt8} (hr : r ≠ []) (h1 : T.data.toList.drop k = body r) (h2 : k + (body r).length = T.size) (h3 : m ++ clean r = clean l) :
    T.data.toList.drop (k + (esc r).length) = body (r.drop (zl r).1) ∧ k + (esc r).length + (body (r.drop (zl r).1)).length = T.size ∧ m ++ san r ++ clean (r.drop (zl r).1) = clean l ∧ T.data.toList.drop k = esc r ++ body (r.drop (zl r).1) := by
  have hb := body_cons hr
  refine ⟨?_, ?_, ?_, by rw [h1, hb]⟩
  · rw [← List.drop_drop, h1, hb]
    simp
  · rw [hb, List.length_append] at h2
    omega
  · rw [← h3, clean_cons hr, List.append_assoc]

def Next (T : ByteArray) (l : List UInt8) (k : Nat) (m : List UInt8) (r : List UInt8) : Prop := T.data.toList.drop k = body r ∧ k + (body r).length = T.size ∧ m ++ clean r = clean l

theorem un_short {T : ByteArray} {k : Nat} {r m l : List UInt8} {b : UInt8} (hr : r ≠ []) (h : Next T l k m r) (he : esc r = [92, b]) (hsn : san r = [b]) :
    ∃ (h : k + 1 < T.size) (r2 : List UInt8), (T[k]'(by omega)).toNat = 92 ∧ (T[k + 1]'h).toNat = b.toNat ∧ Next T l (k + 2) (m ++ [b]) r2 := by
  obtain ⟨s1, s2, s3, s4⟩ := un_step hr h.1 h.2.1 h.2.2
  rw [he] at s1 s2 s4
  rw [hsn] at s3
  have hk : k + 1 < T.size := by simp at s2; omega
  refine ⟨hk, _, ?_, ?_, s1, s2, s3⟩
  · have := byte_at (j := 0) s4 (by omega); simpa [gl] using this
  · have := byte_at (j := 1) s4 hk; simpa [gl] using this

theorem un_long {T : ByteArray} {k : Nat} {r m l : List UInt8} {b x y : UInt8} (hr : r ≠ []) (h : Next T l k m r) (he : esc r = [92, 117, 48, 48, x, y]) (hsn : san r = [b]) :
    ∃ (h : k + 5 < T.size) (r2 : List UInt8), (T[k]'(by omega)).toNat = 92 ∧ (T[k + 1]'(by omega)).toNat = 117 ∧ (T[k + 2]'(by omega)).toNat = 48 ∧ (T[k + 3]'(by omega)).toNat = 48 ∧ (T[k + 4]'(by omega)).toNat = x.toNat ∧ (T[k + 5]'h).toNat = y.toNat ∧ Next T l (k + 6) (m ++ [b]) r2 := by
  obtain ⟨s1, s2, s3, s4⟩ := un_step hr h.1 h.2.1 h.2.2
  rw [he] at s1 s2 s4
  rw [hsn] at s3
  have hk : k + 5 < T.size := by simp at s2; omega
  refine ⟨hk, _, ?_, ?_, ?_, ?_, ?_, ?_, s1, s2, s3⟩
  · have := byte_at (j := 0) s4 (by omega); simpa [gl] using this
  · have := byte_at (j := 1) s4 (by omega); simpa [gl] using this
  · have := byte_at (j := 2) s4 (by omega); simpa [gl] using this
  · have := byte_at (j := 3) s4 (by omega); simpa [gl] using this
  · have := byte_at (j := 4) s4 (by omega); simpa [gl] using this
  · have := byte_at (j := 5) s4 (by omega); simpa [gl] using this

theorem un_raw {T : ByteArray} {k : Nat} {r m l : List UInt8} (hr : r ≠ []) (h : Next T l k m r) (hz : zl (esc r ++ body (r.drop (zl r).1)) = ((esc r).length, true)) (hsn : san r = esc r) (h1 : 1 ≤ (esc r).length) :
    ∃ (n : Nat) (h : k < T.size) (r2 : List UInt8), n ≤ T.size - k ∧ 1 ≤ n ∧ (T[k]'h).toNat = gl (esc r) 0 ∧ zl (T.data.toList.drop k) = (n, true) ∧ Next T l (k + n) (m ++ (T.data.toList.drop k).take n) r2 := by
  obtain ⟨s1, s2, s3, s4⟩ := un_step hr h.1 h.2.1 h.2.2
  rw [hsn] at s3
  have hk : k < T.size := by omega
  have ht : (T.data.toList.drop k).take (esc r).length = esc r := by rw [s4]; simp
  refine ⟨(esc r).length, hk, _, by omega, h1, ?_, by rw [s4]; exact hz, s1, s2, by rw [ht]; exact s3⟩
  have := byte_at (j := 0) s4 (by omega)
  rw [gl_append (by omega)] at this
  simpa using this

set_option maxHeartbeats 4000000 in
set_option maxRecDepth 100000 in
theorem unquote_core (q T : ByteArray) (l : List UInt8) (w : World) (hs : q.size ≤ 1073741824) (h2 : 2 ≤ q.size) (f0 : (q[0]'(by omega)).toNat = 34) (f1 : (q[q.size - 1]'(by omega)).toNat = 34)
    (hT : q.extract 1 (q.size - 1) = T) (hT1 : T.size ≤ 1073741824) (HTL : Hid (T.data.toList = body l)) (HTS : Hid (T.size = (body l).length)) :
    Calls Try.prog 9 #[.string q] w fun e w' => e = .returned (.tuple #[.string ⟨(clean l).toArray⟩, .bool true]) ∧ Below w.heap.size w w' := by
  obtain ⟨i0, hi, hz0, hz1, hz2⟩ := info_parts Try.infoByte
  have d0 : decide ((q.size : Int) < 2) = false := by simp; omega
  go_enter Try.func9, Try.ntmps9
  go_wp2_with (at_make; refine wpList_make_own _ rfl _ _ 28 rfl w.heap.size 5 i0 (.int .u8 0) 1 Try.underlying28 hi hz0 hz1 .i64 .i64 _ T.size rfl rfl rfl (by rw [hz2]; omega) (by unfold maxLen; omega) (Nat.le_refl _) ?_; intro w0 hown0 hgrow0)
  have hb0 : Below w.heap.size w w0 := (Below.refl _ w).grown hgrow0 (Nat.le_refl _) (by intro k hk; cases hk)
  go_loopw [5, 6] (fun v i wr => ∃ (k : Nat) (m r : List UInt8), i = .int .i64 k ∧ wr.ownsRowF w.heap.size 5 1 v m.length (Lib.byteCells m) ∧ Below w.heap.size w wr ∧ Next T l k m r ∧ m.length ≤ k ∧ k ≤ T.size) (fun _ i _ => T.size - (intOf i).toNat)
  case atStart => exact ⟨0, [], l, rfl, World.ownsRowF_of hown0, hb0, ⟨HTL.out, by rw [HTS.out]; simp, rfl⟩, by simp, by omega⟩
  case round =>
    obtain ⟨k, m, r, rfl, hown, hb, HR, hmk, hkT⟩ := hrel
    have hsz := hb.size
    by_cases hr : r = []
    · have hk : T.size ≤ k := by have := HR.2.1; rw [hr] at this; simp [body_nil] at this; omega
      have hcv := run_string_own hown
      have HE : Hid (m = clean l) := by have := HR.2.2; rw [hr, clean_nil, List.append_nil] at this; exact this
      clear HR hr
      go_wp2
      go_ret2
      rw [← HE.out]
      exact ⟨rfl, hb⟩
    · rcases esc_shape hr (body (r.drop (zl r).1)) with ⟨b, hb34, he, hsn⟩ | ⟨b, hb32, he, hsn⟩ | ⟨hz, hsn, n1, n2, n3, n4, n5⟩
      · -- a short escape
        obtain ⟨hk2, r2, t0, t1, HN⟩ := un_short hr HR he hsn
        have g1 : (((b.toNat : Nat) : Int) == 34 || ((b.toNat : Nat) : Int) == 92) = true := by simp; omega
        have hbt := b.toNat_lt
        clear HR hr he hsn
        rcases (show (((b.toNat : Nat) : Int) == 34) = true ∨ ((((b.toNat : Nat) : Int) == 34) = false ∧ (((b.toNat : Nat) : Int) == 92) = true) by simp; omega) with g2 | ⟨g2, g3⟩
        all_goals
          clear g1
          go_wp2_with (at_builtin; refine wpList_append_ownF _ rfl (.tmp 64) (.tmp 66) 28 rfl w.heap.size 5 i0 (.int .u8 0) 1 1 Try.underlying28 hi hz0 hz1 hz2 rfl (by decide) _ _ _ rfl (hown.alloc _) ⟨wr.heap.size, 0, none⟩ 1 1 [.int .u8 b.toNat] rfl rfl ?c1 ?c2 ?c3 ?c4 ?c5 ?_)
          case c1 =>
            intro j u hj
            match j, hj with
            | 0, hj => simp at hj; subst hj; simp [Addr.add]
          case c2 => intro u hu; simp at hu; subst hu; rfl
          case c3 => unfold maxLen; omega
          case c4 => omega
          case c5 => simp; omega
          intro v' w2 hown' hgrow _
          have hb2 := (hb.alloc hsz _).grown hgrow (by simp; omega) (fun k hk => (hown.lt k hk).1)
          go_wp2
          go_roundw
          case rel => exact ⟨k + 2, m ++ [b], r2, by go_num, by simpa [Lib.byteCells] using hown', hb2, HN, by simp; omega, by omega⟩
          case measure => simp [intOf]; omega
      · -- a long escape
        obtain ⟨hk5, r2, t0, t1, t2, t3, t4, t5, HN⟩ := un_long hr HR he hsn
        obtain ⟨n1, hn1⟩ : ∃ n, b.toNat / 16 = n := ⟨_, rfl⟩
        obtain ⟨n2, hn2⟩ : ∃ n, b.toNat % 16 = n := ⟨_, rfl⟩
        have hn16 : n1 < 16 := by omega
        have hn16' : n2 < 16 := by omega
        have HB : Hid (b.toNat = n1 * 16 + n2) := by show _ = _; omega
        rw [hn1] at t4
        rw [hn2] at t5
        have x1 := hexd_val n1 hn16
        have x2 := hexd_val n2 hn16'
        obtain ⟨X, hX0⟩ : ∃ X, (hexd n1).toNat = X := ⟨_, rfl⟩
        obtain ⟨Y, hY0⟩ : ∃ Y, (hexd n2).toNat = Y := ⟨_, rfl⟩
        rw [hX0] at t4 x1
        rw [hY0] at t5 x2
        have hX : ((X : Int) = 48 + n1 ∧ n1 < 10) ∨ ((X : Int) = 55 + n1 ∧ 10 ≤ n1 ∧ n1 < 16) := by omega
        have hY : ((Y : Int) = 48 + n2 ∧ n2 < 10) ∨ ((Y : Int) = 55 + n2 ∧ 10 ≤ n2 ∧ n2 < 16) := by omega
        have HX : Hid (((X : Int) = 48 + n1 ∧ n1 < 10) ∨ ((X : Int) = 55 + n1 ∧ 10 ≤ n1 ∧ n1 < 16)) := hX
        have HY : Hid (((Y : Int) = 48 + n2 ∧ n2 < 10) ∨ ((Y : Int) = 55 + n2 ∧ 10 ≤ n2 ∧ n2 < 16)) := hY
        have hk6 : decide ((T.size : Int) < (k : Int) + 6) = false := by simp; omega
        have hcase : n1 * 16 + n2 < 32 ∨ n1 * 16 + n2 = 127 := by omega
        clear HR hr he hsn hX0 hY0 hn1 hn2 x1 x2 hX hY hb32
        rcases hcase with hc | hc
        · have hc2 : decide ((32 : Int) ≤ (n1 : Int) * 16 + (n2 : Int)) = false := by simp; omega
          clear hc
          go_wp2_with (fail)
          refine (upper_any _ n1 HX.out _).mono ?_
          rintro e w' ⟨rfl, rfl⟩
          go_wp2_with (fail)
          refine (upper_any _ n2 HY.out _).mono ?_
          rintro e w' ⟨rfl, rfl⟩
          go_wp2_with (at_builtin; refine wpList_append_ownF _ rfl (.tmp 125) (.tmp 127) 28 rfl w.heap.size 5 i0 (.int .u8 0) 1 1 Try.underlying28 hi hz0 hz1 hz2 rfl (by decide) _ _ _ rfl (hown.alloc _) ⟨wr.heap.size, 0, none⟩ 1 1 [.int .u8 ((n1 : Int) * 16 + (n2 : Int))] rfl rfl ?c1 ?c2 ?c3 ?c4 ?c5 ?_)
          case c1 =>
            intro j u hj
            match j, hj with
            | 0, hj => simp at hj; subst hj; simp [Addr.add]
          case c2 => intro u hu; simp at hu; subst hu; rfl
          case c3 => unfold maxLen; omega
          case c4 => omega
          case c5 => simp; omega
          intro v' w2 hown' hgrow _
          have hb2 := (hb.alloc hsz _).grown hgrow (by simp; omega) (fun k hk => (hown.lt k hk).1)
          have hcb : Lib.byteCells (m ++ [b]) = Lib.byteCells m ++ [.int .u8 ((n1 : Int) * 16 + (n2 : Int))] := by
            rw [Lib.byteCells_append]
            show Lib.byteCells m ++ [Value.int .u8 (b.toNat : Int)] = _
            rw [HB.out]
            first | rfl | simp
          go_wp2
          go_roundw
          case rel => exact ⟨k + 6, m ++ [b], r2, by go_num, by rw [hcb]; simpa using hown', hb2, HN, by simp; omega, by omega⟩
          case measure => simp [intOf]; omega
        · obtain ⟨rfl, rfl⟩ : n1 = 7 ∧ n2 = 15 := by omega
          clear hc
          go_wp2_with (fail)
          refine (upper_any _ 7 HX.out _).mono ?_
          rintro e w' ⟨rfl, rfl⟩
          go_wp2_with (fail)
          refine (upper_any _ 15 HY.out _).mono ?_
          rintro e w' ⟨rfl, rfl⟩
          go_wp2_with (at_builtin; refine wpList_append_ownF _ rfl (.tmp 125) (.tmp 127) 28 rfl w.heap.size 5 i0 (.int .u8 0) 1 1 Try.underlying28 hi hz0 hz1 hz2 rfl (by decide) _ _ _ rfl (hown.alloc _) ⟨wr.heap.size, 0, none⟩ 1 1 [.int .u8 (127)] rfl rfl ?c1 ?c2 ?c3 ?c4 ?c5 ?_)
          case c1 =>
            intro j u hj
            match j, hj with
            | 0, hj => simp at hj; subst hj; simp [Addr.add]
          case c2 => intro u hu; simp at hu; subst hu; rfl
          case c3 => unfold maxLen; omega
          case c4 => omega
          case c5 => simp; omega
          intro v' w2 hown' hgrow _
          have hb2 := (hb.alloc hsz _).grown hgrow (by simp; omega) (fun k hk => (hown.lt k hk).1)
          have hcb : Lib.byteCells (m ++ [b]) = Lib.byteCells m ++ [.int .u8 (127)] := by
            rw [Lib.byteCells_append]
            show Lib.byteCells m ++ [Value.int .u8 (b.toNat : Int)] = _
            rw [HB.out]
            first | rfl | simp
          go_wp2
          go_roundw
          case rel => exact ⟨k + 6, m ++ [b], r2, by go_num, by rw [hcb]; simpa using hown', hb2, HN, by simp; omega, by omega⟩
          case measure => simp [intOf]; omega
      · -- raw bytes, one whole rune
        obtain ⟨n, hk1, r2, q1, q2, t0, hzl, HN⟩ := un_raw hr HR hz hsn n5
        have hd := dec_any T k wr (by omega) hk1
        rw [hzl] at hd
        obtain ⟨c, hc0⟩ : ∃ c, gl (esc r) 0 = c := ⟨_, rfl⟩
        rw [hc0] at t0 n1 n2 n3 n4
        have b1 : ((c : Int) == 92) = false := beq_eq_false_iff_ne.2 (by omega)
        have b2 : ((c : Int) == 34) = false := beq_eq_false_iff_ne.2 (by omega)
        have b3 : decide ((c : Int) < 32) = false := decide_eq_false (by omega)
        have b4 : ((c : Int) == 127) = false := beq_eq_false_iff_ne.2 (by omega)
        have HD : Hid (Calls Try.prog 24 #[.string T, .int .i64 k] wr fun e w' => e = .returned (.tuple #[.int .i64 n, .bool true]) ∧ wr = w') := hd
        have HEC : Hid (Lib.strCells (T.extract k (k + n)) = Lib.byteCells ((T.data.toList.drop k).take n)) := strCells_extract T k n
        have HES : Hid ((T.extract k (k + n)).size = n) := extract_size T k n (by omega)
        have HTK : Hid (((T.data.toList.drop k).take n).length = n) := by show _ = _; rw [List.length_take, len_drop]; omega
        clear HR hr hz hsn n1 n2 n3 n4 n5 hc0 hzl hd
        go_wp2_with (first | (go_at_call 24; refine HD.out.mono ?_; rintro e w' ⟨rfl, rfl⟩) | (at_builtin; refine Lib.wpList_append_own_stringF _ rfl (.tmp 149) (.tmp 155) 28 9 rfl w.heap.size 5 i0 Try.underlying28 Try.underlying9 hi hz0 hz1 hz2 _ _ _ rfl hown (T.extract k (k + n)) rfl ?d3 ?d4 ?d5 ?_))
        case d3 => rw [HES.out]; unfold maxLen; omega
        case d4 => rw [HES.out]; omega
        case d5 => omega
        intro v' w2 hown' hgrow _
        rw [show min (k + n) T.size - k = n by omega, HEC.out, ← Lib.byteCells_append] at hown'
        have hb2 := hb.grown hgrow hsz (fun k hk => (hown.lt k hk).1)
        have hll : (m ++ (T.data.toList.drop k).take n).length = m.length + n := by rw [List.length_append, HTK.out]
        go_wp2
        go_roundw
        case rel => exact ⟨k + n, m ++ (T.data.toList.drop k).take n, r2, by go_num, by rw [hll]; exact hown', hb2, HN, by rw [hll]; omega, by omega⟩
        case measure => simp [intOf]; omega

theorem unquote_quoted (q : ByteArray) (l : List UInt8) (w : World) (hq : q.data.toList = [34] ++ body l ++ [34]) (hs : q.size ≤ 1073741824) :
    Calls Try.prog 9 #[.string q] w fun e w' => e = .returned (.tuple #[.string ⟨(clean l).toArray⟩, .bool true]) ∧ Below w.heap.size w w' := by
  have hqs : q.size = (body l).length + 2 := by
    have : q.size = q.data.toList.length := rfl
    rw [this, hq]
    simp
  have h2 : 2 ≤ q.size := by omega
  have f0 : (q[0]'(by omega)).toNat = 34 := by
    have := byte_at (T := q) (k := 0) (j := 0) (l := [34] ++ body l ++ [34]) (by simpa using hq) (by omega)
    simpa [gl] using this
  have e1 : gl ([34] ++ body l ++ [34]) (q.size - 1) = 34 := by rw [hqs]; simp [gl]
  have f1 : (q[q.size - 1]'(by omega)).toNat = 34 := by
    have := byte_at (T := q) (k := 0) (j := q.size - 1) (l := [34] ++ body l ++ [34]) (by simpa using hq) (by omega)
    rw [e1] at this
    simpa using this
  have hTl : (q.extract 1 (q.size - 1)).data.toList = body l := by
    rw [Lib.extract_data, hq, hqs]
    simp
  have hTs : (q.extract 1 (q.size - 1)).size = (body l).length := by rw [← hTl]; rfl
  exact unquote_core q _ l w hs h2 f0 f1 rfl (by omega) hTl hTs

end Go.Proofs.Qxb6601730a

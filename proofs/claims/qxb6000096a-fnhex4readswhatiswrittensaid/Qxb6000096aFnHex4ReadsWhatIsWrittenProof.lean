/-
  The proof of 'Rows.FnHex4ReadsWhatIsWrittenSaid': the walk of the law out of its callees' contracts, and the row's step.
-/
import Derived.Test.Qxb6000096aRows
import Derived.WalkKit
import Derived.ProofKit
import Derived.OpenShut
import Derived.ShutString
import Derived.ChangeOld
import Derived.Below
import Derived.Test.Qxb6000096aHexWalks
namespace Go.Proofs.Qxb6000096a.fnHex4ReadsWhatIsWritten
open Go.ChangeShapes Go.WideShapes Go.ChangeAt Go.RowKit
open Go.ChangeMaps (open_string shut_string)
open Go.Proofs.Qxb6000096a.Hex
set_option linter.unusedVariables false

theorem own : ownKnob Try.prog.godebug = none := by kernel_rfl
theorem laidOut : laidOutB Try.prog = true := by kernel_rfl

/-- WHAT THE WALK IS TOLD OF A SLICE OF INTEGERS THAT CAME IN: it is nil; or it leads to a row of 'cap' cells, the numbers 'zs' (the first 'len' are its elements, the rest its spare room), each fitting its kind. -/
def IsRow (k : IntKind) (w : World) (a : Option Addr) (len cap : Nat) (zs : List Int) : Prop :=
  (a = none ∧ len = 0 ∧ cap = 0 ∧ zs = []) ∨
  ∃ x, a = some x ∧ len ≤ cap ∧ cap ≤ maxLen ∧ zs.length = cap ∧ (∀ i, i < zs.length → w.cell? (x.add i) = some (.int k (zs.getD i 0))) ∧ ∀ n ∈ zs, (Lit.int k n).wf = true

/-! ### STEP 1: THE WALK -/
theorem bytes_yes (v : Int) (u : Bool) (a : Option Addr) (n c : Nat) (w : World) (h : n ≤ 1048576) :
    Calls Try.prog 11 #[.int .u16 v, .bool u, .slice a n c] w fun e w' => e = .returned (.bool true) ∧ w = w' := by
  go_enter Try.func11, Try.ntmps11
  go_wp2
  go_ret
  exact ⟨rfl, rfl⟩
theorem bytes_no (v : Int) (u : Bool) (a : Option Addr) (n c : Nat) (w : World) (h : 1048576 < n) (hm : n ≤ 9223372036854775807) :
    Calls Try.prog 11 #[.int .u16 v, .bool u, .slice a n c] w fun e w' => e = .returned (.bool false) ∧ w = w' := by
  go_enter Try.func11, Try.ntmps11
  go_wp2
  go_ret
  exact ⟨rfl, rfl⟩

theorem h15_0 (v : Nat) (hv : v < 65536) : bits .and .u16 ((v : Int) / 4096) 15 = (v : Int) / 4096 % 16 := by
  have := and15_u16 (v / 4096) (by omega)
  rwa [show ((v / 4096 : Nat) : Int) = (v : Int) / 4096 by omega, show ((v / 4096 % 16 : Nat) : Int) = (v : Int) / 4096 % 16 by omega] at this
theorem h15_1 (v : Nat) (hv : v < 65536) : bits .and .u16 ((v : Int) / 256) 15 = (v : Int) / 256 % 16 := by
  have := and15_u16 (v / 256) (by omega)
  rwa [show ((v / 256 : Nat) : Int) = (v : Int) / 256 by omega, show ((v / 256 % 16 : Nat) : Int) = (v : Int) / 256 % 16 by omega] at this
theorem h15_2 (v : Nat) (hv : v < 65536) : bits .and .u16 ((v : Int) / 16) 15 = (v : Int) / 16 % 16 := by
  have := and15_u16 (v / 16) (by omega)
  rwa [show ((v / 16 : Nat) : Int) = (v : Int) / 16 by omega, show ((v / 16 % 16 : Nat) : Int) = (v : Int) / 16 % 16 by omega] at this
theorem h15_3 (v : Nat) (hv : v < 65536) : bits .and .u16 (v : Int) 15 = (v : Int) % 16 := by
  have := and15_u16 v hv
  rwa [show ((v % 16 : Nat) : Int) = (v : Int) % 16 by omega] at this

theorem put_step {g : Nat → Value} {u : Bool} {v k x : Nat} (hx : x = ch u (nib v k)) (hg : ∀ j, j < k → g j = .int .u8 (ch u (nib v j) : Nat)) :
    ∀ j, j < k + 1 → (fun j => if j = k then Value.int .u8 (x : Nat) else g j) j = .int .u8 (ch u (nib v j) : Nat) := by
  intro j hj
  by_cases e : j = k
  · subst e; simp [hx]
  · simp only [e, if_false]
    exact hg j (by omega)

theorem ch_byte (u : Bool) (v : Nat) : ∀ i, (0 : Int) ≤ ((ch u (nib v i) : Nat) : Int) ∧ ((ch u (nib v i) : Nat) : Int) ≤ 255 := fun i => by
  have := nib_lt v i
  unfold ch
  split
  · omega
  · split <;> omega

set_option maxHeartbeats 1000000 in
set_option maxRecDepth 100000 in
theorem walk_some (v : Nat) (u : Bool) (x : Addr) (n c : Nat) (f : Nat → Int) (w : World) (hv : v < 65536) (hn : n ≤ 1048576) (hc : ∀ i, i < n → w.cell? (x.add i) = some (.int .u8 (f i))) :
    Calls Try.prog 4 #[.int .u16 v, .bool u, .slice (some x) n c] w fun e w' => e = .returned (.bool true) ∧ Below w.heap.size w w' := by
  have HC : Hid (∀ i, i < n → w.cell? (x.add i) = some (.int .u8 (f i))) := hc
  clear hc
  have hmk := fun (w : World) => run_make_row' (P := Try.prog) 22 5 (.int .u8 0) 1 Try.underlying22 Try.info5 rfl .i64 .i64 (4 + n) (by omega) (by omega) w
  rw [show (((4 + n : Nat)) : Int) = 4 + (n : Int) by omega] at hmk
  go_enter Try.func4, Try.ntmps4
  go_wp2_with (go_at_call 11; refine (bytes_yes _ _ _ _ _ _ hn).mono ?_; rintro e w' ⟨rfl, rfl⟩)
  refine (clone_some _ _ _ _ _ hn HC.out).mono ?_
  rintro e w1 ⟨rfl, hb1, hs1, hr1⟩
  have HR1 : Hid (w1.rowIs w.heap.size 5 n fun i => Value.int IntKind.u8 (f i)) := hr1
  clear hr1
  go_wp2
  go_loopw [8] (fun i wr => ∃ (k : Nat) (g : Nat → Value), k ≤ 4 ∧ i = .int .i64 k ∧ Below (w.heap.size + 1) w1 wr ∧ wr.heap.size = w.heap.size + 2 ∧ wr.rowIs (w.heap.size + 1) 5 (4 + n) g ∧ Hid (∀ j, j < k → g j = .int .u8 (ch u (nib v j) : Nat))) (fun i _ => 4 - (intOf i).toNat)
  case atStart =>
    refine ⟨0, fun _ => .int .u8 0, Nat.zero_le _, rfl, (Below.refl _ _).alloc (by omega) _, by simp [hs1], ?_, fun j hj => absurd hj (Nat.not_lt_zero _)⟩
    have := World.rowIs_made w1 (.int .u8 0) (4 + n) 5
    rw [hs1] at this
    exact this
  case round =>
    obtain ⟨k, g, hk, rfl, hb, hs, hr, hg⟩ := hrel
    by_cases hlt : k < 4
    · have hfz := hr.frozen k
      obtain ⟨v0, hv0⟩ : ∃ v0, wr.cell? ⟨w.heap.size + 1, k, none⟩ = some v0 := ⟨_, hr.cell (by omega)⟩
      have g0 := h15_0 v hv
      have g1 := h15_1 v hv
      have g2 := h15_2 v hv
      have g3 := h15_3 v hv
      rcases (show k = 0 ∨ k = 1 ∨ k = 2 ∨ k = 3 by omega) with rfl | rfl | rfl | rfl
      · cases u
        · go_wp2
          go_roundw
          case rel => exact ⟨1, _, by omega, by go_num, hb.setCell (Nat.le_refl _) _, by simpa using hs, hr.set 0 _, put_step (low_at _ _) hg.out⟩
          case measure => simp [intOf]
        · go_wp2
          go_roundw
          case rel => exact ⟨1, _, by omega, by go_num, hb.setCell (Nat.le_refl _) _, by simpa using hs, hr.set 0 _, put_step (up_at _ _) hg.out⟩
          case measure => simp [intOf]
      · cases u
        · go_wp2
          go_roundw
          case rel => exact ⟨2, _, by omega, by go_num, hb.setCell (Nat.le_refl _) _, by simpa using hs, hr.set 1 _, put_step (low_at _ _) hg.out⟩
          case measure => simp [intOf]
        · go_wp2
          go_roundw
          case rel => exact ⟨2, _, by omega, by go_num, hb.setCell (Nat.le_refl _) _, by simpa using hs, hr.set 1 _, put_step (up_at _ _) hg.out⟩
          case measure => simp [intOf]
      · cases u
        · go_wp2
          go_roundw
          case rel => exact ⟨3, _, by omega, by go_num, hb.setCell (Nat.le_refl _) _, by simpa using hs, hr.set 2 _, put_step (low_at _ _) hg.out⟩
          case measure => simp [intOf]
        · go_wp2
          go_roundw
          case rel => exact ⟨3, _, by omega, by go_num, hb.setCell (Nat.le_refl _) _, by simpa using hs, hr.set 2 _, put_step (up_at _ _) hg.out⟩
          case measure => simp [intOf]
      · cases u
        · go_wp2
          go_roundw
          case rel => exact ⟨4, _, by omega, by go_num, hb.setCell (Nat.le_refl _) _, by simpa using hs, hr.set 3 _, put_step (low_at _ _) hg.out⟩
          case measure => simp [intOf]
        · go_wp2
          go_roundw
          case rel => exact ⟨4, _, by omega, by go_num, hb.setCell (Nat.le_refl _) _, by simpa using hs, hr.set 3 _, put_step (up_at _ _) hg.out⟩
          case measure => simp [intOf]
    · have hk4 : k = 4 := by omega
      subst hk4
      go_wp2
      go_loopw [10] (fun i w2 => ∃ (k : Nat) (g : Nat → Value), k ≤ n ∧ i = .int .i64 k ∧ Below (w.heap.size + 1) w1 w2 ∧ w2.heap.size = w.heap.size + 2 ∧ w2.rowIs (w.heap.size + 1) 5 (4 + n) g ∧ Hid (∀ j, j < 4 → g j = .int .u8 (ch u (nib v j) : Nat))) (fun i _ => n - (intOf i).toNat)
      case atStart => exact ⟨0, g, Nat.zero_le _, rfl, hb, hs, hr, hg⟩
      case round =>
        obtain ⟨k, g2, hk2, rfl, hb2, hs2, hr2, hg2⟩ := hrel
        clear hr hg hb hs
        by_cases hlt : k < n
        · have hcx := (hb2.cell (p := ⟨w.heap.size, k, none⟩) (by simp)).trans (HR1.out.cell hlt)
          have hfz := hr2.frozen (4 + k)
          obtain ⟨v0, hv0⟩ : ∃ v0, World.cell? _ ⟨w.heap.size + 1, 4 + k, none⟩ = some v0 := ⟨_, hr2.cell (i := 4 + k) (by omega)⟩
          go_wp2
          go_roundw
          case rel => exact ⟨k + 1, _, by omega, by go_num, hb2.setCell (Nat.le_refl _) _, by simpa using hs2, hr2.set (4 + k) _, fun j hj => by simp only [show j ≠ 4 + k by omega, if_false]; exact hg2.out j hj⟩
          case measure => simp [intOf]; omega
        · have hfin := fun (i : Nat) (hi : i < 4) => (hr2.cell (i := i) (by omega)).trans (congrArg some (hg2.out i hi))
          go_wp2_with (go_at_call 9; refine (zzhex_yes (w.heap.size + 1) 0 (4 + n) (4 + n) (fun j => ((ch u (nib v j) : Nat) : Int)) v _ (by omega) (by omega) (by omega) (by omega) (fun i hi => by rw [Nat.zero_add]; exact hfin i hi) (ch_byte u v) (hx_written hv (fun j _ => rfl))).mono ?_; rintro e w' ⟨rfl, rfl⟩)
          go_ret
          exact ⟨rfl, hb1.trans (hb2.mono (by omega))⟩

theorem make_four (w : World) : ∃ W0, (Instr.makeSlice 22 (.int .i64 4) (.int .i64 4)).run Try.prog w = .ok (.slice (some ⟨w.heap.size, 0, none⟩) 4 4) W0 ∧ Below w.heap.size w W0 ∧ W0.heap.size = w.heap.size + 1 ∧ W0.rowIs w.heap.size 5 4 (fun _ => .int .u8 0) :=
  ⟨_, run_make_row' (P := Try.prog) 22 5 (.int .u8 0) 1 Try.underlying22 Try.info5 rfl .i64 .i64 4 (by omega) (by omega) w, (Below.refl _ _).alloc (Nat.le_refl _) _, by simp, World.rowIs_made w _ 4 5⟩

set_option maxHeartbeats 1000000 in
set_option maxRecDepth 100000 in
theorem walk_nil (v : Nat) (u : Bool) (w : World) (hv : v < 65536) :
    Calls Try.prog 4 #[.int .u16 v, .bool u, .slice none 0 0] w fun e w' => e = .returned (.bool true) ∧ Below w.heap.size w w' := by
  obtain ⟨W0, hmk, hb0, hs0, hr0⟩ := make_four w
  go_enter Try.func4, Try.ntmps4
  go_wp2_with (first | (go_at_call 11; refine (bytes_yes _ _ _ _ _ _ (by omega)).mono ?_; rintro e w' ⟨rfl, rfl⟩) | (go_at_call 8; refine (clone_nil _).mono ?_; rintro e w' ⟨rfl, rfl⟩))
  go_loopw [8] (fun i wr => ∃ (k : Nat) (g : Nat → Value), k ≤ 4 ∧ i = .int .i64 k ∧ Below w.heap.size w wr ∧ wr.heap.size = w.heap.size + 1 ∧ wr.rowIs w.heap.size 5 4 g ∧ Hid (∀ j, j < k → g j = .int .u8 (ch u (nib v j) : Nat))) (fun i _ => 4 - (intOf i).toNat)
  case atStart => exact ⟨0, fun _ => .int .u8 0, Nat.zero_le _, rfl, hb0, hs0, hr0, fun j hj => absurd hj (Nat.not_lt_zero _)⟩
  case round =>
    obtain ⟨k, g, hk, rfl, hb, hs, hr, hg⟩ := hrel
    by_cases hlt : k < 4
    · have hfz := hr.frozen k
      obtain ⟨v0, hv0⟩ : ∃ v0, wr.cell? ⟨w.heap.size, k, none⟩ = some v0 := ⟨_, hr.cell (by omega)⟩
      have g0 := h15_0 v hv
      have g1 := h15_1 v hv
      have g2 := h15_2 v hv
      have g3 := h15_3 v hv
      rcases (show k = 0 ∨ k = 1 ∨ k = 2 ∨ k = 3 by omega) with rfl | rfl | rfl | rfl
      · cases u
        · go_wp2
          go_roundw
          case rel => exact ⟨1, _, by omega, by go_num, hb.setCell (Nat.le_refl _) _, by simpa using hs, hr.set 0 _, put_step (low_at _ _) hg.out⟩
          case measure => simp [intOf]
        · go_wp2
          go_roundw
          case rel => exact ⟨1, _, by omega, by go_num, hb.setCell (Nat.le_refl _) _, by simpa using hs, hr.set 0 _, put_step (up_at _ _) hg.out⟩
          case measure => simp [intOf]
      · cases u
        · go_wp2
          go_roundw
          case rel => exact ⟨2, _, by omega, by go_num, hb.setCell (Nat.le_refl _) _, by simpa using hs, hr.set 1 _, put_step (low_at _ _) hg.out⟩
          case measure => simp [intOf]
        · go_wp2
          go_roundw
          case rel => exact ⟨2, _, by omega, by go_num, hb.setCell (Nat.le_refl _) _, by simpa using hs, hr.set 1 _, put_step (up_at _ _) hg.out⟩
          case measure => simp [intOf]
      · cases u
        · go_wp2
          go_roundw
          case rel => exact ⟨3, _, by omega, by go_num, hb.setCell (Nat.le_refl _) _, by simpa using hs, hr.set 2 _, put_step (low_at _ _) hg.out⟩
          case measure => simp [intOf]
        · go_wp2
          go_roundw
          case rel => exact ⟨3, _, by omega, by go_num, hb.setCell (Nat.le_refl _) _, by simpa using hs, hr.set 2 _, put_step (up_at _ _) hg.out⟩
          case measure => simp [intOf]
      · cases u
        · go_wp2
          go_roundw
          case rel => exact ⟨4, _, by omega, by go_num, hb.setCell (Nat.le_refl _) _, by simpa using hs, hr.set 3 _, put_step (low_at _ _) hg.out⟩
          case measure => simp [intOf]
        · go_wp2
          go_roundw
          case rel => exact ⟨4, _, by omega, by go_num, hb.setCell (Nat.le_refl _) _, by simpa using hs, hr.set 3 _, put_step (up_at _ _) hg.out⟩
          case measure => simp [intOf]
    · have hk4 : k = 4 := by omega
      subst hk4
      go_wp2
      go_loopw [10] (fun i w2 => i = .int .i64 0 ∧ w2 = wr) (fun _ _ => 0)
      case atStart => exact ⟨rfl, rfl⟩
      case round =>
        obtain ⟨rfl, rfl⟩ := hrel
        have hfin := fun (i : Nat) (hi : i < 4) => (hr.cell (i := i) (by omega)).trans (congrArg some (hg.out i hi))
        go_wp2_with (go_at_call 9; refine (zzhex_yes w.heap.size 0 4 4 (fun j => ((ch u (nib v j) : Nat) : Int)) v _ (by omega) (by omega) (by omega) (by omega) (fun i hi => by rw [Nat.zero_add]; exact hfin i hi) (ch_byte u v) (hx_written hv (fun j _ => rfl))).mono ?_; rintro e w' ⟨rfl, rfl⟩)
        go_ret
        exact ⟨rfl, hb⟩

theorem walk (a0 : Int) (a1 : Bool) (a2 : Option Addr) (len2 cap2 : Nat) (z2 : List Int) (w : World) (w0 : (Lit.int .u16 a0).wf = true) (w2 : IsRow .u8 w a2 len2 cap2 z2) :
    Calls Try.prog 4 #[.int .u16 a0, .bool a1, .slice a2 len2 cap2] w fun e w' => e = .returned (.bool true) ∧ Below w.heap.size w w' := by
  have hb := bounds_u16 w0
  obtain ⟨v, rfl⟩ := Int.eq_ofNat_of_zero_le hb.1
  by_cases hlen : 1048576 < len2
  · have hm : len2 ≤ 9223372036854775807 := by
      rcases w2 with ⟨_, h, _⟩ | ⟨_, _, h1, h2, _⟩
      · omega
      · unfold maxLen at h2; omega
    clear w2
    go_enter Try.func4, Try.ntmps4
    go_wp2_with (go_at_call 11; refine (bytes_no _ _ _ _ _ _ hlen hm).mono ?_; rintro e w' ⟨rfl, rfl⟩)
    go_ret
    exact ⟨rfl, Below.refl _ _⟩
  rcases w2 with ⟨rfl, rfl, rfl, rfl⟩ | ⟨x, rfl, hl, hm, hz, hc, hwf⟩
  · exact walk_nil v a1 w (by omega)
  · exact walk_some v a1 x len2 cap2 (fun i => z2.getD i 0) w (by omega) (by omega) (fun i hi => hc i (by omega))

/-! ### THE ROW's STEP: WRITTEN OUT: LEAVE IT -/
set_option maxRecDepth 100000 in
theorem lifted (os : Os) (started : os.Started) (H : Type) (enc : TypeId × Value → H) :
    ReturnsInHanded {} Try.checked os 4 .any (Rows.fnHex4ReadsWhatIsWrittenSpec.pre6 enc Try.prog Try.f4 Rows.fnHex4ReadsWhatIsWrittenRow.domain false) (Rows.fnHex4ReadsWhatIsWrittenSpec.post enc Try.prog Try.f4 false true false false) := by
  refine returnsInHanded_of_change (C := Try.checked) own started (by kernel_rfl) Try.func4
    (ChangeSpec.witness6 (enc := enc) (C := Try.checked) false ⟨#[], #[.int .u16 0, .bool false, .slice none 0 0], []⟩ 8 (by kernel_rfl) (by kernel_rfl) (by kernel_rfl) (by kernel_rfl)) ?_
  intro W base args ds gs before hval0 hW hcnd _
  have hval : ∀ (j : Nat) t v, Try.f4.params[j]? = some t → args[j]? = some v → Value.okWide Try.prog W .any base t v := hval0
  have hW' := hW
  obtain ⟨p, q, hA0, hV, rfl, hfz, hnd⟩ := hW
  have hA : DataW.TrodAll enc Try.prog W 0 (fun _ => true) true Try.f4.params.toList args.toList ds p := hA0
  rw [Try.params4] at hA hval
  obtain ⟨v0, vs0, d0, ds0, p0, q0, hargs, rfl, rfl, h0, r0⟩ := trodAll_cons hA
  obtain ⟨v1, vs1, d1, ds1, p1, q1, rfl, rfl, rfl, h1, r1⟩ := trodAll_cons r0
  obtain ⟨v2, vs2, d2, ds2, p2, q2, rfl, rfl, rfl, h2, r2⟩ := trodAll_cons r1
  obtain ⟨rfl, rfl, rfl⟩ := trodAll_nil r2
  obtain rfl : args = #[v0, v1, v2] := by cases args; simp_all
  obtain ⟨rfl, rfl⟩ := trodVars_none hV
  obtain ⟨a0, rfl, rfl, rfl, w0⟩ := open_int Try.underlying28 (hval 0 28 v0 rfl rfl) h0
  obtain ⟨a1, rfl, rfl, rfl⟩ := open_bool Try.underlying4 (hval 1 4 v1 rfl rfl) h1
  obtain ⟨a2, len2, cap2, rfl⟩ := okWide_slice Try.underlying22 (hval 2 22 v2 rfl rfl)
  have k2 := h2
  have lt2 : ∀ x ∈ p2, x.block < W.heap.size := by obtain ⟨m, hm⟩ := k2; exact DataW.trod_lt m _ _ _ hm
  obtain ⟨z2, w2⟩ : ∃ zs, IsRow .u8 W a2 len2 cap2 zs := by
    obtain ⟨fuel, hf⟩ := h2
    rcases open_ints Try.underlying22 Try.underlying5 (by kernel_rfl) hf with ⟨hcs, _⟩ | ⟨x, l, c, zs, hcs, _, hl, hm, hz, _, hcell, hwz⟩
    · simp [Value.cells] at hcs
      obtain ⟨rfl, rfl, rfl⟩ := hcs
      exact ⟨[], .inl ⟨rfl, rfl, rfl, rfl⟩⟩
    · simp [Value.cells] at hcs
      obtain ⟨rfl, rfl, rfl⟩ := hcs
      exact ⟨zs, .inr ⟨_, rfl, hl, hm, by simpa using hz, hcell, hwz⟩⟩
  clear hA0 hval0
  refine (walk a0 a1 a2 len2 cap2 z2 W w0 w2).mono fun e W' ⟨he, bel⟩ => ?_
  subst he
  exact ⟨_, rfl, _, _, _, [], _, [], hW', trodAll_mk1 (shut_bool Try.underlying4 _), (trodAll_cons_mk (shut_int Try.underlying28 w0) (trodAll_cons_mk (shut_bool Try.underlying4 _) (trodAll_cons_mk (Below.trod laidOut (by kernel_rfl) (of_decide_eq_true (by kernel_rfl)) k2 bel lt2) trodAll_mk0))), rfl, bel.frame _, fun h => by cases h⟩

theorem over : Rows.fnHex4ReadsWhatIsWrittenRow.holds Try.pinned (OpenSpec.ofChange Rows.fnHex4ReadsWhatIsWrittenSpec) :=
  OpenClaim.holds_of_wide 4 Try.f4 rfl rfl rfl rfl rfl rfl rfl ⟨rfl, rfl, rfl, rfl, rfl⟩ rfl rfl rfl rfl rfl (by kernel_rfl) Try.func4 (by kernel_rfl)
    (of_decide_eq_true (by kernel_rfl)) (by unfold Func.isWrapper; first | (rw [if_pos (by decide +kernel)]; kernel_rfl) | (rw [if_neg (by decide +kernel)]; exact ⟨rfl, rfl⟩))
    (fun os started H enc _ => lifted os started H enc)

/-- ████ THE STATEMENT ████ -/
theorem proved : Rows.FnHex4ReadsWhatIsWrittenSaid := over
end Go.Proofs.Qxb6000096a.fnHex4ReadsWhatIsWritten

/-
  The proof of 'Rows.FnAppendEscapeDecodesBackSaid': the walk of the law out of its callees' contracts, and the row's step.
-/
import Derived.Test.Qxb6000096aRows
import Derived.WalkKit
import Derived.ProofKit
import Derived.OpenShut
import Derived.ShutString
import Derived.ChangeOld
import Derived.Below
import Derived.Test.Qxb6000096aEscape
namespace Go.Proofs.Qxb6000096a.fnAppendEscapeDecodesBack
open Go.ChangeShapes Go.WideShapes Go.ChangeAt Go.RowKit
open Go.ChangeMaps (open_string shut_string)
open Go.Proofs.Qxb6000096a.Hex
set_option linter.unusedVariables false      -- a walk need not use every 'w<i>' (that an integer argument fits its kind)

theorem own : ownKnob Try.prog.godebug = none := by kernel_rfl

/-! ### STEP 1: THE WALK -/
/-- A short escape: the letter says the byte. -/
def Short (c d : Nat) : Prop := (d = 34 ∧ c = 34) ∨ (d = 92 ∧ c = 92) ∨ (d = 98 ∧ c = 8) ∨ (d = 102 ∧ c = 12) ∨ (d = 110 ∧ c = 10) ∨ (d = 114 ∧ c = 13) ∨ (d = 116 ∧ c = 9)

/-- Printable bytes. -/
def Print (l : List Nat) : Prop := ∀ i, i < l.length → 32 ≤ l.getD i 0 ∧ l.getD i 0 ≤ 126

set_option maxHeartbeats 2000000 in
set_option maxRecDepth 100000 in
theorem walk_short (c d : Nat) (w : World) (hcd : Short c d) (he : es c = [92, d]) :
    Calls Try.prog 6 #[.int .u8 c] w fun e w' => e = .returned (.bool true) ∧ Below w.heap.size w w' := by
  have hpr : Print [92, d] := by
    have hd : 32 ≤ d ∧ d ≤ 126 := by unfold Short at hcd; omega
    intro i hi
    match i, hi with
    | 0, _ => simp
    | 1, _ => simpa using hd
    | (i + 2), hi => simp at hi; omega
  have hc := zzesc_any c w (by unfold Short at hcd; omega)
  rw [he] at hc
  have HC : Hid (Calls Try.prog 13 #[.slice none 0 0, .int .u8 c] w fun e w' => Out w [92, d] e w') := hc
  clear hc he
  go_enter Try.func6, Try.ntmps6
  go_wp2_with (go_at_call 13; refine HC.out.mono ?_; rintro e W ⟨g, cap, rfl, hc1, hc2, hb, hcl⟩)
  have HCL : Hid (∀ i, i < ([92, d] : List Nat).length → W.cell? ⟨g, i, none⟩ = some (.int .u8 (([92, d] : List Nat).getD i 0 : Nat))) := hcl
  have p0 : W.cell? ⟨g, 0, none⟩ = some (.int .u8 92) := hcl 0 (by simp)
  have p1 : W.cell? ⟨g, 1, none⟩ = some (.int .u8 d) := hcl 1 (by simp)
  clear hcl
  go_loop [4] (fun i => ∃ k : Nat, k ≤ 2 ∧ i = .int .i64 k) (fun i => 2 - (intOf i).toNat)
  case atStart => exact ⟨0, by omega, rfl⟩
  case round =>
    obtain ⟨k, hk, rfl⟩ := hrel
    by_cases hlt : k < 2
    · have hx1 := HCL.out k hlt
      have hx2 := hpr k hlt
      obtain ⟨x, hx⟩ : ∃ x, ([92, d] : List Nat).getD k 0 = x := ⟨_, rfl⟩
      rw [hx] at hx1 hx2
      clear p0 p1 hx
      go_wp2
      go_round
      case rel => exact ⟨k + 1, by omega, by go_num⟩
      case measure => simp [intOf]; omega
    · have hk2 : k = 2 := by omega
      subst hk2
      clear hpr
      rcases hcd with ⟨rfl, rfl⟩ | ⟨rfl, rfl⟩ | ⟨rfl, rfl⟩ | ⟨rfl, rfl⟩ | ⟨rfl, rfl⟩ | ⟨rfl, rfl⟩ | ⟨rfl, rfl⟩
      all_goals
        go_wp2
        go_ret
        exact ⟨rfl, hb⟩

theorem ch_low (d : Nat) (h : d < 16) : 48 ≤ ch false d ∧ ch false d ≤ 102 := by
  unfold ch
  split
  · omega
  · simp; omega

set_option maxHeartbeats 2000000 in
set_option maxRecDepth 100000 in
theorem walk_six (c a b : Nat) (w : World) (hc : c < 256) (ha : ch false (c / 16) = a) (hb' : ch false (c % 16) = b) (he : es c = [92, 117, 48, 48, a, b]) :
    Calls Try.prog 6 #[.int .u8 c] w fun e w' => e = .returned (.bool true) ∧ Below w.heap.size w w' := by
  have hpr : Print [92, 117, 48, 48, a, b] := by
    have h1 := ch_low (c / 16) (by omega)
    have h2 := ch_low (c % 16) (by omega)
    rw [ha] at h1
    rw [hb'] at h2
    intro i hi
    match i, hi with
    | 0, _ => simp
    | 1, _ => simp
    | 2, _ => simp
    | 3, _ => simp
    | 4, _ => simp; omega
    | 5, _ => simp; omega
    | (i + 6), hi => simp at hi; omega
  have hwr : hx (fun j => ((([92, 117, 48, 48, a, b] : List Nat).getD (j + 2) 0 : Nat) : Int)) 4 = some c := by
    refine hx_written (up := false) (v := c) (by omega) fun j hj => ?_
    match j, hj with
    | 0, _ => simp [nib, show c / 4096 % 16 = 0 by omega, ch]
    | 1, _ => simp [nib, show c / 256 % 16 = 0 by omega, ch]
    | 2, _ => simp [nib, show c / 16 % 16 = c / 16 by omega, ha]
    | 3, _ => simp [nib, hb']
    | (j + 4), hj => omega
  have hbyte : ∀ i, (0 : Int) ≤ ((([92, 117, 48, 48, a, b] : List Nat).getD (i + 2) 0 : Nat) : Int) ∧ ((([92, 117, 48, 48, a, b] : List Nat).getD (i + 2) 0 : Nat) : Int) ≤ 255 := fun i => by
    by_cases hi : i + 2 < ([92, 117, 48, 48, a, b] : List Nat).length
    · have := hpr (i + 2) hi
      omega
    · rw [List.getD_eq_getElem?_getD, List.getElem?_eq_none (by omega)]
      simp
  have hz := zzesc_any c w hc
  rw [he] at hz
  have HC : Hid (Calls Try.prog 13 #[.slice none 0 0, .int .u8 c] w fun e w' => Out w [92, 117, 48, 48, a, b] e w') := hz
  have HW : Hid (hx (fun j => ((([92, 117, 48, 48, a, b] : List Nat).getD (j + 2) 0 : Nat) : Int)) 4 = some c) := hwr
  have HBY : Hid (∀ i, (0 : Int) ≤ ((([92, 117, 48, 48, a, b] : List Nat).getD (i + 2) 0 : Nat) : Int) ∧ ((([92, 117, 48, 48, a, b] : List Nat).getD (i + 2) 0 : Nat) : Int) ≤ 255) := hbyte
  clear hz he ha hb' hwr hbyte
  go_enter Try.func6, Try.ntmps6
  go_wp2_with (go_at_call 13; refine HC.out.mono ?_; rintro e W ⟨g, cap, rfl, hc1, hc2, hb, hcl⟩)
  have HCL : Hid (∀ i, i < ([92, 117, 48, 48, a, b] : List Nat).length → W.cell? ⟨g, i, none⟩ = some (.int .u8 (([92, 117, 48, 48, a, b] : List Nat).getD i 0 : Nat))) := hcl
  have p0 : W.cell? ⟨g, 0, none⟩ = some (.int .u8 92) := hcl 0 (by simp)
  have p1 : W.cell? ⟨g, 1, none⟩ = some (.int .u8 117) := hcl 1 (by simp)
  have hcap : 6 ≤ cap := by simpa using hc1
  have hcap2 : cap ≤ 9223372036854775807 := by unfold maxLen at hc2; omega
  clear hcl hc1 hc2
  go_loop [4] (fun i => ∃ k : Nat, k ≤ 6 ∧ i = .int .i64 k) (fun i => 6 - (intOf i).toNat)
  case atStart => exact ⟨0, by omega, rfl⟩
  case round =>
    obtain ⟨k, hk, rfl⟩ := hrel
    by_cases hlt : k < 6
    · have hx1 := HCL.out k hlt
      have hx2 := hpr k hlt
      obtain ⟨x, hx⟩ : ∃ x, ([92, 117, 48, 48, a, b] : List Nat).getD k 0 = x := ⟨_, rfl⟩
      rw [hx] at hx1 hx2
      clear p0 p1 hx
      go_wp2
      go_round
      case rel => exact ⟨k + 1, by omega, by go_num⟩
      case measure => simp [intOf]; omega
    · have hk2 : k = 6 := by omega
      subst hk2
      clear hpr
      go_wp2_with fail
      refine (zzhex_yes g 2 4 (cap - 2) _ c _ (by omega) (by omega) (by omega) (by omega) (fun i hi => ?_) HBY.out HW.out).mono ?_
      · rw [Nat.add_comm 2 i]
        exact HCL.out (i + 2) (by show i + 2 < 6; omega)
      rintro e w' ⟨rfl, rfl⟩
      go_wp2
      go_ret
      exact ⟨rfl, hb⟩

theorem walk (a0 : Int) (w0 : (Lit.int .u8 a0).wf = true) (w : World) :
    Calls Try.prog 6 #[.int .u8 a0] w fun e w' => e = .returned (.bool true) ∧ Below w.heap.size w w' := by
  have hb := bounds_u8 w0
  obtain ⟨c, rfl⟩ := Int.eq_ofNat_of_zero_le hb.1
  by_cases h1 : c = 34 ∨ c = 92
  · exact walk_short c c w (by unfold Short; omega) (by unfold es; rw [if_pos h1])
  by_cases h2 : c = 8
  · subst h2; exact walk_short 8 98 w (by unfold Short; omega) rfl
  by_cases h3 : c = 12
  · subst h3; exact walk_short 12 102 w (by unfold Short; omega) rfl
  by_cases h4 : c = 10
  · subst h4; exact walk_short 10 110 w (by unfold Short; omega) rfl
  by_cases h5 : c = 13
  · subst h5; exact walk_short 13 114 w (by unfold Short; omega) rfl
  by_cases h6 : c = 9
  · subst h6; exact walk_short 9 116 w (by unfold Short; omega) rfl
  exact walk_six c _ _ w (by omega) rfl rfl (by unfold es; rw [if_neg h1, if_neg h2, if_neg h3, if_neg h4, if_neg h5, if_neg h6])

/-! ### THE ROW's STEP: WRITTEN OUT: LEAVE IT -/
set_option maxRecDepth 100000 in
theorem lifted (os : Os) (started : os.Started) (H : Type) (enc : TypeId × Value → H) :
    ReturnsInHanded {} Try.checked os 6 .any (Rows.fnAppendEscapeDecodesBackSpec.pre6 enc Try.prog Try.f6 Rows.fnAppendEscapeDecodesBackRow.domain false) (Rows.fnAppendEscapeDecodesBackSpec.post enc Try.prog Try.f6 false true false false) := by
  refine returnsInHanded_of_change (C := Try.checked) own started (by kernel_rfl) Try.func6
    (ChangeSpec.witness6 (enc := enc) (C := Try.checked) false ⟨#[], #[.int .u8 0], []⟩ 8 (by kernel_rfl) (by kernel_rfl) (by kernel_rfl) (by kernel_rfl)) ?_
  intro W base args ds gs before hval0 hW hcnd _
  have hval : ∀ (j : Nat) t v, Try.f6.params[j]? = some t → args[j]? = some v → Value.okWide Try.prog W .any base t v := hval0
  have hW' := hW
  obtain ⟨p, q, hA0, hV, rfl, hfz, hnd⟩ := hW
  have hA : DataW.TrodAll enc Try.prog W 0 (fun _ => true) true Try.f6.params.toList args.toList ds p := hA0
  rw [Try.params6] at hA hval
  obtain ⟨v0, vs0, d0, ds0, p0, q0, hargs, rfl, rfl, h0, r0⟩ := trodAll_cons hA
  obtain ⟨rfl, rfl, rfl⟩ := trodAll_nil r0
  obtain rfl : args = #[v0] := by cases args; simp_all
  obtain ⟨rfl, rfl⟩ := trodVars_none hV
  obtain ⟨a0, rfl, rfl, rfl, w0⟩ := open_int Try.underlying5 (hval 0 5 v0 rfl rfl) h0
  clear hA0 hval0
  simp only [List.append_nil] at hW'
  refine (walk a0 w0 W).mono fun e W' ⟨he, hg⟩ => ?_
  subst he
  exact ⟨_, rfl, _, _, _, [], [], [], hW', trodAll_mk1 (shut_bool Try.underlying4 _), (trodAll_cons_mk (shut_int Try.underlying5 w0) trodAll_mk0), rfl, hg.frame _, fun h => by cases h⟩

theorem over : Rows.fnAppendEscapeDecodesBackRow.holds Try.pinned (OpenSpec.ofChange Rows.fnAppendEscapeDecodesBackSpec) :=
  OpenClaim.holds_of_wide 6 Try.f6 rfl rfl rfl rfl rfl rfl rfl ⟨rfl, rfl, rfl, rfl, rfl⟩ rfl rfl rfl rfl rfl (by kernel_rfl) Try.func6 (by kernel_rfl)
    (of_decide_eq_true (by kernel_rfl)) (by unfold Func.isWrapper; first | (rw [if_pos (by decide +kernel)]; kernel_rfl) | (rw [if_neg (by decide +kernel)]; exact ⟨rfl, rfl⟩))
    (fun os started H enc _ => lifted os started H enc)

/-- ████ THE STATEMENT ████ -/
theorem proved : Rows.FnAppendEscapeDecodesBackSaid :=
  over
end Go.Proofs.Qxb6000096a.fnAppendEscapeDecodesBack

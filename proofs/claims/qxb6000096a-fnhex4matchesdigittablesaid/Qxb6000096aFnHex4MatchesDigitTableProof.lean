/-
  The proof of 'Rows.FnHex4MatchesDigitTableSaid': the walk of the law out of its callees' contracts, and the row's step.
-/
import Derived.Test.Qxb6000096aRows
import Derived.WalkKit
import Derived.ProofKit
import Derived.OpenShut
import Derived.ShutString
import Derived.ChangeOld
import Derived.Below
import Derived.Test.Qxb6000096aHexValue
namespace Go.Proofs.Qxb6000096a.fnHex4MatchesDigitTable
open Go.ChangeShapes Go.WideShapes Go.ChangeAt Go.RowKit
open Go.ChangeMaps (open_string shut_string)
open Go.Proofs.Qxb6000096a.Hex
set_option linter.unusedVariables false

theorem own : ownKnob Try.prog.godebug = none := by kernel_rfl
theorem laidOut : laidOutB Try.prog = true := by kernel_rfl

/-- WHAT THE WALK IS TOLD OF A SLICE OF INTEGERS THAT CAME IN: it is nil; or it leads to a row of 'cap' cells, the numbers 'zs' (the first 'len' are its elements, the rest its spare room), each fitting its kind. -/
def IsRow (k : IntKind) (w : World) (a : Option Addr) (len cap : Nat) (zs : List Int) : Prop :=
  (a = none ∧ len = 0 ∧ cap = 0 ∧ zs = []) ∨
  ∃ x, a = some x ∧ len ≤ cap ∧ cap ≤ maxLen ∧ zs.length = cap ∧ (∀ i, i < zs.length → w.cell? (x.add i) = some (.int k (zs.getD i 0))) ∧ ∀ n ∈ zs, (Lit.int k n).wf = true

/-! ### STEP 1: THE WALK -/
theorem bytes_yes (a : Option Addr) (n c : Nat) (w : World) (h : n ≤ 1048576) :
    Calls Try.prog 7 #[.slice a n c] w fun e w' => e = .returned (.bool true) ∧ w = w' := by
  go_enter Try.func7, Try.ntmps7
  go_wp2
  go_ret
  exact ⟨rfl, rfl⟩
theorem bytes_no (a : Option Addr) (n c : Nat) (w : World) (h : 1048576 < n) (hm : n ≤ 9223372036854775807) :
    Calls Try.prog 7 #[.slice a n c] w fun e w' => e = .returned (.bool false) ∧ w = w' := by
  go_enter Try.func7, Try.ntmps7
  go_wp2
  go_ret
  exact ⟨rfl, rfl⟩

set_option maxHeartbeats 1000000 in
set_option maxRecDepth 100000 in
theorem walk_some (x : Addr) (n c : Nat) (f : Nat → Int) (w : World) (hn : n ≤ 1048576) (hf : ∀ i, 0 ≤ f i ∧ f i ≤ 255) (hc : ∀ i, i < n → w.cell? (x.add i) = some (.int .u8 (f i))) :
    Calls Try.prog 3 #[.slice (some x) n c] w fun e w' => e = .returned (.bool true) ∧ Below w.heap.size w w' := by
  have HC : Hid (∀ i, i < n → w.cell? (x.add i) = some (.int .u8 (f i))) := hc
  have HF : Hid (∀ i, 0 ≤ f i ∧ f i ≤ 255) := hf
  clear hc hf
  by_cases h4 : n < 4
  · go_enter Try.func3, Try.ntmps3
    go_wp2_with (first | (go_at_call 7; refine (bytes_yes _ _ _ _ hn).mono ?_; rintro e w' ⟨rfl, rfl⟩) | (go_at_call 8; refine (clone_some _ _ _ _ _ hn HC.out).mono ?_; rintro e w1 ⟨rfl, hb, hs, hr⟩) | (go_at_call 9; refine (zzhex_short _ _ _ _ h4).mono ?_; rintro e w' ⟨rfl, rfl⟩))
    go_ret
    exact ⟨rfl, by assumption⟩
  cases h4x : hx f 4 with
  | none =>
    have H4 : Hid (hx f 4 = none) := h4x
    clear h4x
    go_enter Try.func3, Try.ntmps3
    go_wp2_with (go_at_call 7; refine (bytes_yes _ _ _ _ hn).mono ?_; rintro e w' ⟨rfl, rfl⟩)
    refine (clone_some _ _ _ _ _ hn HC.out).mono ?_
    rintro e w1 ⟨rfl, hb, hs, hr⟩
    have HR : Hid (w1.rowIs w.heap.size 5 n fun i => Value.int IntKind.u8 (f i)) := hr
    clear hr
    go_wp2_with (go_at_call 9; refine (zzhex_no w.heap.size 0 n n f _ (by omega) (by omega) (by omega) (by omega) (fun i hi => by rw [Nat.zero_add]; exact HR.out.cell (by omega)) HF.out H4.out).mono ?_; rintro e w' ⟨rfl, rfl⟩)
    go_loop [5, 6] (fun v i => ∃ k q : Nat, k ≤ 4 ∧ i = .int .i64 k ∧ v = .int .i64 q ∧ Hid (hx f k = some q)) (fun _ i => 4 - (intOf i).toNat)
    case atStart => exact ⟨0, 0, by omega, rfl, rfl, rfl⟩
    case round =>
      obtain ⟨k, q, hk, rfl, rfl, hq⟩ := hrel
      by_cases hlt : k < 4
      · have hcx := HR.out.cell (i := k) (by omega)
        have hfk := HF.out k
        have hq4 : q < 4096 := Nat.lt_of_lt_of_le (hx_lt hq.out) (pw_four hlt)
        cases hv' : hv (f k) with
        | none =>
          have HV : Hid (hvI (f k) = -1) := by show _ = _; unfold hvI; rw [hv']
          have HN := hx_four hlt hv'
          clear hv' hq
          clear HN
          go_wp2_with (go_at_call 10; refine (hexValue_any _ _ hfk.1 hfk.2).mono ?_; rw [HV.out]; rintro e w' ⟨rfl, rfl⟩)
          go_ret
          exact ⟨rfl, hb⟩
        | some d =>
          have HV : Hid (hvI (f k) = (d : Int)) := by show _ = _; unfold hvI; rw [hv']
          have hd := hv_lt hv'
          have HS : Hid (hx f (k + 1) = some (q * 16 + d)) := hx_succ hq.out hv'
          clear hv' hq
          go_wp2_with (go_at_call 10; refine (hexValue_any _ _ hfk.1 hfk.2).mono ?_; rw [HV.out]; rintro e w' ⟨rfl, rfl⟩)
          go_round
          case rel => exact ⟨k + 1, q * 16 + d, by omega, by go_num, by go_num, HS⟩
          case measure => simp [intOf]; omega
      · have hk4 : k = 4 := by omega
        subst hk4
        exact absurd (hq.out.symm.trans H4.out) (by simp)
  | some r =>
    have H4 : Hid (hx f 4 = some r) := h4x
    clear h4x
    go_enter Try.func3, Try.ntmps3
    go_wp2_with (go_at_call 7; refine (bytes_yes _ _ _ _ hn).mono ?_; rintro e w' ⟨rfl, rfl⟩)
    refine (clone_some _ _ _ _ _ hn HC.out).mono ?_
    rintro e w1 ⟨rfl, hb, hs, hr⟩
    have HR : Hid (w1.rowIs w.heap.size 5 n fun i => Value.int IntKind.u8 (f i)) := hr
    clear hr
    go_wp2_with (go_at_call 9; refine (zzhex_yes w.heap.size 0 n n f r _ (by omega) (by omega) (by omega) (by omega) (fun i hi => by rw [Nat.zero_add]; exact HR.out.cell (by omega)) HF.out H4.out).mono ?_; rintro e w' ⟨rfl, rfl⟩)
    go_loop [5, 6] (fun v i => ∃ k q : Nat, k ≤ 4 ∧ i = .int .i64 k ∧ v = .int .i64 q ∧ Hid (hx f k = some q)) (fun _ i => 4 - (intOf i).toNat)
    case atStart => exact ⟨0, 0, by omega, rfl, rfl, rfl⟩
    case round =>
      obtain ⟨k, q, hk, rfl, rfl, hq⟩ := hrel
      by_cases hlt : k < 4
      · have hcx := HR.out.cell (i := k) (by omega)
        have hfk := HF.out k
        have hq4 : q < 4096 := Nat.lt_of_lt_of_le (hx_lt hq.out) (pw_four hlt)
        cases hv' : hv (f k) with
        | none =>
          have HV : Hid (hvI (f k) = -1) := by show _ = _; unfold hvI; rw [hv']
          have HN := hx_four hlt hv'
          clear hv' hq
          exact absurd (H4.out.symm.trans HN) (by simp)
        | some d =>
          have HV : Hid (hvI (f k) = (d : Int)) := by show _ = _; unfold hvI; rw [hv']
          have hd := hv_lt hv'
          have HS : Hid (hx f (k + 1) = some (q * 16 + d)) := hx_succ hq.out hv'
          clear hv' hq
          go_wp2_with (go_at_call 10; refine (hexValue_any _ _ hfk.1 hfk.2).mono ?_; rw [HV.out]; rintro e w' ⟨rfl, rfl⟩)
          go_round
          case rel => exact ⟨k + 1, q * 16 + d, by omega, by go_num, by go_num, HS⟩
          case measure => simp [intOf]; omega
      · have hk4 : k = 4 := by omega
        subst hk4
        have hqr : q = r := by have := hq.out.symm.trans H4.out; simpa using this
        subst hqr
        have hq5 : q < 65536 := hx_lt hq.out
        clear hq
        go_wp2
        go_ret
        exact ⟨by simp; omega, hb⟩

theorem walk (a0 : Option Addr) (len0 cap0 : Nat) (z0 : List Int) (w : World) (w0 : IsRow .u8 w a0 len0 cap0 z0) :
    Calls Try.prog 3 #[.slice a0 len0 cap0] w fun e w' => e = .returned (.bool true) ∧ Below w.heap.size w w' := by
  by_cases hlen : 1048576 < len0
  · have hm : len0 ≤ 9223372036854775807 := by
      rcases w0 with ⟨_, h, _⟩ | ⟨_, _, h1, h2, _⟩
      · omega
      · unfold maxLen at h2; omega
    clear w0
    go_enter Try.func3, Try.ntmps3
    go_wp2_with (go_at_call 7; refine (bytes_no _ _ _ _ hlen hm).mono ?_; rintro e w' ⟨rfl, rfl⟩)
    go_ret
    exact ⟨rfl, Below.refl _ _⟩
  rcases w0 with ⟨rfl, rfl, rfl, rfl⟩ | ⟨x, rfl, hl, hm, hz, hc, hwf⟩
  · go_enter Try.func3, Try.ntmps3
    go_wp2_with (first | (go_at_call 7; refine (bytes_yes _ _ _ _ (by omega)).mono ?_; rintro e w' ⟨rfl, rfl⟩) | (go_at_call 8; refine (clone_nil _).mono ?_; rintro e w' ⟨rfl, rfl⟩) | (go_at_call 9; refine (zzhex_short _ _ _ _ (by omega)).mono ?_; rintro e w' ⟨rfl, rfl⟩))
    go_ret
    exact ⟨rfl, Below.refl _ _⟩
  · have hf : ∀ i, 0 ≤ z0.getD i 0 ∧ z0.getD i 0 ≤ 255 := fun i => by
      by_cases hi : i < z0.length
      · have := hwf (z0.getD i 0) (by simp [List.getD, List.getElem?_eq_getElem hi])
        have := bounds_u8 this
        omega
      · simp [List.getD, List.getElem?_eq_none (Nat.le_of_not_lt hi)]
    exact walk_some x len0 cap0 (fun i => z0.getD i 0) w (by omega) hf (fun i hi => hc i (by omega))

/-! ### THE ROW's STEP: WRITTEN OUT: LEAVE IT -/
set_option maxRecDepth 100000 in
theorem lifted (os : Os) (started : os.Started) (H : Type) (enc : TypeId × Value → H) :
    ReturnsInHanded {} Try.checked os 3 .any (Rows.fnHex4MatchesDigitTableSpec.pre6 enc Try.prog Try.f3 Rows.fnHex4MatchesDigitTableRow.domain false) (Rows.fnHex4MatchesDigitTableSpec.post enc Try.prog Try.f3 false true false false) := by
  refine returnsInHanded_of_change (C := Try.checked) own started (by kernel_rfl) Try.func3
    (ChangeSpec.witness6 (enc := enc) (C := Try.checked) false ⟨#[], #[.slice none 0 0], []⟩ 8 (by kernel_rfl) (by kernel_rfl) (by kernel_rfl) (by kernel_rfl)) ?_
  intro W base args ds gs before hval0 hW hcnd _
  have hval : ∀ (j : Nat) t v, Try.f3.params[j]? = some t → args[j]? = some v → Value.okWide Try.prog W .any base t v := hval0
  have hW' := hW
  obtain ⟨p, q, hA0, hV, rfl, hfz, hnd⟩ := hW
  have hA : DataW.TrodAll enc Try.prog W 0 (fun _ => true) true Try.f3.params.toList args.toList ds p := hA0
  rw [Try.params3] at hA hval
  obtain ⟨v0, vs0, d0, ds0, p0, q0, hargs, rfl, rfl, h0, r0⟩ := trodAll_cons hA
  obtain ⟨rfl, rfl, rfl⟩ := trodAll_nil r0
  obtain rfl : args = #[v0] := by cases args; simp_all
  obtain ⟨rfl, rfl⟩ := trodVars_none hV
  obtain ⟨a0, len0, cap0, rfl⟩ := okWide_slice Try.underlying22 (hval 0 22 v0 rfl rfl)
  have k0 := h0
  have lt0 : ∀ x ∈ p0, x.block < W.heap.size := by obtain ⟨m, hm⟩ := k0; exact DataW.trod_lt m _ _ _ hm
  obtain ⟨z0, w0⟩ : ∃ zs, IsRow .u8 W a0 len0 cap0 zs := by
    obtain ⟨fuel, hf⟩ := h0
    rcases open_ints Try.underlying22 Try.underlying5 (by kernel_rfl) hf with ⟨hcs, _⟩ | ⟨x, l, c, zs, hcs, _, hl, hm, hz, _, hcell, hwz⟩
    · simp [Value.cells] at hcs
      obtain ⟨rfl, rfl, rfl⟩ := hcs
      exact ⟨[], .inl ⟨rfl, rfl, rfl, rfl⟩⟩
    · simp [Value.cells] at hcs
      obtain ⟨rfl, rfl, rfl⟩ := hcs
      exact ⟨zs, .inr ⟨_, rfl, hl, hm, by simpa using hz, hcell, hwz⟩⟩
  clear hA0 hval0
  refine (walk a0 len0 cap0 z0 W w0).mono fun e W' ⟨he, bel⟩ => ?_
  subst he
  exact ⟨_, rfl, _, _, _, [], _, [], hW', trodAll_mk1 (shut_bool Try.underlying4 _), (trodAll_cons_mk (Below.trod laidOut (by kernel_rfl) (of_decide_eq_true (by kernel_rfl)) k0 bel lt0) trodAll_mk0), rfl, bel.frame _, fun h => by cases h⟩

theorem over : Rows.fnHex4MatchesDigitTableRow.holds Try.pinned (OpenSpec.ofChange Rows.fnHex4MatchesDigitTableSpec) :=
  OpenClaim.holds_of_wide 3 Try.f3 rfl rfl rfl rfl rfl rfl rfl ⟨rfl, rfl, rfl, rfl, rfl⟩ rfl rfl rfl rfl rfl (by kernel_rfl) Try.func3 (by kernel_rfl)
    (of_decide_eq_true (by kernel_rfl)) (by unfold Func.isWrapper; first | (rw [if_pos (by decide +kernel)]; kernel_rfl) | (rw [if_neg (by decide +kernel)]; exact ⟨rfl, rfl⟩))
    (fun os started H enc _ => lifted os started H enc)

/-- ████ THE STATEMENT ████ -/
theorem proved : Rows.FnHex4MatchesDigitTableSaid := over
end Go.Proofs.Qxb6000096a.fnHex4MatchesDigitTable

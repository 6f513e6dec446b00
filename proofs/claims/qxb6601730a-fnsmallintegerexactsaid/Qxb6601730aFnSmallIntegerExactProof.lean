/-
  The proof of 'Rows.FnSmallIntegerExactSaid': the walk of the law out of its callees' contracts (Qxb6601730aIntWalks), and the row's step.
-/
import Derived.Test.Qxb6601730aRows
import Derived.WalkKit
import Derived.ProofKit
import Derived.OpenShut
import Derived.ShutString
import Derived.ChangeOld
import Derived.Below
import Derived.Test.Qxb6601730aIntWalks
import Derived.Deep.RegionWith
namespace Go.Proofs.Qxb6601730a.fnSmallIntegerExact
open Go.ChangeShapes Go.WideShapes Go.ChangeAt Go.RowKit
open Go.ChangeMaps (open_string shut_string)
open Go.Proofs.Qxb6601730a.Plain
set_option linter.unusedVariables false

theorem own : ownKnob Try.prog.godebug = none := by kernel_rfl
theorem laidOut : laidOutB Try.prog = true := by kernel_rfl

/-- WHAT THE WALK IS TOLD OF A SLICE OF INTEGERS THAT CAME IN: it is nil; or it leads to a row of 'cap' cells, the numbers 'zs' (the first 'len' are its elements, the rest its spare room), each fitting its kind. -/
def IsRow (k : IntKind) (w : World) (a : Option Addr) (len cap : Nat) (zs : List Int) : Prop :=
  (a = none ∧ len = 0 ∧ cap = 0 ∧ zs = []) ∨
  ∃ x, a = some x ∧ len ≤ cap ∧ cap ≤ maxLen ∧ zs.length = cap ∧ (∀ i, i < zs.length → w.cell? (x.add i) = some (.int k (zs.getD i 0))) ∧ ∀ n ∈ zs, (Lit.int k n).wf = true

/-! ### STEP 1: THE WALK: the Go text returns true, AND WRITES NOTHING THAT WAS THERE: 'Below w.heap.size w w'' (Derived/Below.lean: '.refl', '.alloc', '.drew', '.setCell' at a new block, '.trans'). Open each 'IsRow' by 'rcases' AHEAD of 'go_enter'; part every test ahead of the walk. -/
theorem all_yes (n c b : Nat) (f : Nat → Int) (w : World) (hm : n ≤ 18) (hr : ∀ i, i < n → w.cell? ⟨b, i, none⟩ = some (.int .u8 (f i))) (hd : digs f n) :
    Calls Try.prog 16 #[.slice (some ⟨b, 0, none⟩) n c] w fun e w' => e = .returned (.bool true) ∧ w = w' :=
  (all_digits n c b f w hm hr).mono fun e w' h => by
    rcases h with ⟨⟨_, h⟩ | ⟨h, _⟩, hw⟩
    · exact ⟨h, hw⟩
    · exact absurd hd h
theorem all_no (n c b : Nat) (f : Nat → Int) (w : World) (hm : n ≤ 18) (hr : ∀ i, i < n → w.cell? ⟨b, i, none⟩ = some (.int .u8 (f i))) (hd : ¬ digs f n) :
    Calls Try.prog 16 #[.slice (some ⟨b, 0, none⟩) n c] w fun e w' => e = .returned (.bool false) ∧ w = w' :=
  (all_digits n c b f w hm hr).mono fun e w' h => by
    rcases h with ⟨⟨h, _⟩ | ⟨_, h⟩, hw⟩
    · exact absurd h hd
    · exact ⟨h, hw⟩
theorem small_yes (n c b : Nat) (f : Nat → Int) (w : World) (h : 1 ≤ n) (hm : n ≤ 18) (hr : ∀ i, i < n → w.cell? ⟨b, i, none⟩ = some (.int .u8 (f i))) (h0 : f 0 ≠ 48 ∨ n = 1) (hf : ∀ i, 0 ≤ f i ∧ f i ≤ 255) (hd : digs f n) :
    Calls Try.prog 15 #[.slice (some ⟨b, 0, none⟩) n c] w fun e w' => e = .returned (.tuple #[.int .i64 (val f n), .bool true]) ∧ w = w' :=
  small15_of ((small_loop n c b f w h hm hr h0 hf).mono fun e w' h => by
    rcases h with ⟨⟨_, h⟩ | ⟨h, _⟩, hw⟩
    · exact ⟨⟨_, _, h⟩, h, hw⟩
    · exact absurd hd h)
theorem small_no (n c b : Nat) (f : Nat → Int) (w : World) (h : 1 ≤ n) (hm : n ≤ 18) (hr : ∀ i, i < n → w.cell? ⟨b, i, none⟩ = some (.int .u8 (f i))) (hf : ∀ i, 0 ≤ f i ∧ f i ≤ 255) (hd : ¬ digs f n ∨ (f 0 = 48 ∧ n ≠ 1)) :
    Calls Try.prog 15 #[.slice (some ⟨b, 0, none⟩) n c] w fun e w' => e = .returned (.tuple #[.int .i64 0, .bool false]) ∧ w = w' := by
  by_cases hz : f 0 = 48 ∧ n ≠ 1
  · exact small15_of ((small_zero n c b f w (by omega) hm hr hz.1).mono fun e w' h => ⟨⟨_, _, h.1⟩, h⟩)
  · refine small15_of ((small_loop n c b f w h hm hr (by omega) hf).mono fun e w' h => ?_)
    rcases h with ⟨⟨h, _⟩ | ⟨_, h⟩, hw⟩
    · rcases hd with hd | hd
      · exact absurd h hd
      · exact absurd hd hz
    · exact ⟨⟨_, _, h⟩, h, hw⟩

theorem conv_at (f : Nat → Int) (n B : Nat) (w1 W : World) (hb : Below w1.heap.size w1 W) (hr : w1.rowIs B 5 n fun i => Value.int IntKind.u8 (f i)) :
    (convert 28 9 (.slice (some ⟨B, 0, none⟩) n n)).run Try.prog W = .ok (.string (strOfNums ((List.range n).map f))) W := by
  refine run_convert_bytes_arg (P := Try.prog) W 28 5 Try.underlying28 Try.underlying5 B 0 n n _ (by simp) (fun i hi => ?_) 9 Try.underlying9
  have h := hr.cell hi
  rw [Nat.zero_add, hb.cell (by exact cell_lt h), h]
  simp [hi]
theorem itoa_all (n : Nat) (f : Nat → Int) (w : World) (h : 1 ≤ n) (hm : n ≤ 18) (hd : digs f n) (h0 : f 0 ≠ 48 ∨ n = 1) :
    Calls Try.prog 17 #[.int .i64 (val f n)] w fun e w' => e = .returned (.string (strOfNums ((List.range n).map f))) ∧ Below w.heap.size w w' := by
  by_cases h1 : f 0 = 48
  · obtain rfl : n = 1 := by omega
    have e : val f 1 = 0 := by simp [val, h1]
    rw [e]
    refine (itoa_zero w).mono ?_
    rintro e w' ⟨rfl, rfl⟩
    exact ⟨by simp [strOfNums, List.range_succ, h1], Below.refl _ _⟩
  · exact itoa_pos n f w h hm hd h1

set_option maxHeartbeats 1000000 in
theorem walk_some (x : Addr) (n c : Nat) (f : Nat → Int) (w : World) (hn : n ≤ 1048576) (hf : ∀ i, 0 ≤ f i ∧ f i ≤ 255) (hc : ∀ i, i < n → w.cell? (x.add i) = some (.int .u8 (f i))) :
    Calls Try.prog 5 #[.slice (some x) n c] w fun e w' => e = .returned (.bool true) ∧ Below w.heap.size w w' := by
  have HC : Hid (∀ i, i < n → w.cell? (x.add i) = some (.int .u8 (f i))) := hc
  have HF : Hid (∀ i, 0 ≤ f i ∧ f i ≤ 255) := hf
  clear hc hf
  rcases Nat.lt_or_ge n 1 with h1 | h1
  · obtain rfl : n = 0 := by omega
    go_enter Try.func5, Try.ntmps5
    go_wp2_with (first | (go_at_call 13; refine (bytes13_yes _ _ _ _ (by omega)).mono ?_; rintro e w' ⟨rfl, rfl⟩) | (go_at_call 14; refine (clone_some _ _ _ _ _ hn HC.out).mono ?_; rintro e w1 ⟨rfl, hb, hs, hr⟩) | (go_at_call 15; refine (small15_of ((small_none _ _ _).mono fun e w' h => ⟨⟨_, _, h.1⟩, h⟩)).mono ?_; rintro e w' ⟨rfl, rfl⟩))
    go_ret
    exact ⟨rfl, by assumption⟩
  rcases Nat.lt_or_ge 18 n with h18 | h18
  · go_enter Try.func5, Try.ntmps5
    go_wp2_with (first | (go_at_call 13; refine (bytes13_yes _ _ _ _ (by omega)).mono ?_; rintro e w' ⟨rfl, rfl⟩) | (go_at_call 14; refine (clone_some _ _ _ _ _ hn HC.out).mono ?_; rintro e w1 ⟨rfl, hb, hs, hr⟩) | (go_at_call 15; refine (small15_of ((small_long _ _ _ _ h18 hn).mono fun e w' h => ⟨⟨_, _, h.1⟩, h⟩)).mono ?_; rintro e w' ⟨rfl, rfl⟩))
    go_ret
    exact ⟨rfl, by assumption⟩
  have g1 : decide ((1 : Int) ≤ (n : Int)) = true := by simp; omega
  have g2 : decide ((n : Int) ≤ 18) = true := by simp; omega
  by_cases hd : digs f n
  · by_cases h0 : f 0 ≠ 48 ∨ n = 1
    · have g3 : (f 0 ≠ 48) ∨ (f 0 = 48 ∧ ((n : Int) == 1) = true) := by
        by_cases h : f 0 = 48
        · rcases h0 with h0 | h0
          · exact absurd h h0
          · exact .inr ⟨h, by simp [h0]⟩
        · exact .inl h
      have H0 : Hid (f 0 ≠ 48 ∨ n = 1) := h0
      clear h0
      rcases g3 with g3 | ⟨g3, g4⟩
      all_goals
        go_enter Try.func5, Try.ntmps5
        go_wp2_with (first | (go_at_call 13; refine (bytes13_yes _ _ _ _ (by omega)).mono ?_; rintro e w' ⟨rfl, rfl⟩))
        refine (clone_some _ _ _ _ _ hn HC.out).mono ?_
        rintro e w1 ⟨rfl, hb, hs, hr⟩
        have hc0 := hr.cell (i := 0) (by omega)
        have hcv := conv_at f n w.heap.size w1 w1.drew (Below.refl _ _).drew hr
        have HR : Hid (w1.rowIs w.heap.size 5 n fun i => Value.int IntKind.u8 (f i)) := hr
        clear hr
        go_wp2_with (first | (go_at_call 15; refine (small_yes _ _ _ _ _ h1 h18 (fun i hi => HR.out.cell hi) H0.out HF.out hd).mono ?_; rintro e w' ⟨rfl, rfl⟩) | (go_at_call 16; refine (all_yes _ _ _ _ _ h18 (fun i hi => HR.out.cell hi) hd).mono ?_; rintro e w' ⟨rfl, rfl⟩))
        go_region_with (first | (go_at_call 17; refine (itoa_all n f _ h1 h18 hd H0.out).mono ?_; rintro e w2 ⟨rfl, hb2⟩; have hcv2 := conv_at f n w.heap.size w1 w2 ((Below.refl w1.heap.size w1).drew.trans hb2) HR.out))
        all_goals
          go_wp2
          go_ret
          exact ⟨rfl, hb.drew.trans (hb2.mono (by show w.heap.size ≤ w1.heap.size; omega))⟩
    · obtain ⟨g3, hn1⟩ : f 0 = 48 ∧ n ≠ 1 := by omega
      have g4 : ((n : Int) == 1) = false := by simp; omega
      have H0 : Hid (f 0 = 48 ∧ n ≠ 1) := ⟨g3, hn1⟩
      clear h0 hn1
      go_enter Try.func5, Try.ntmps5
      go_wp2_with (first | (go_at_call 13; refine (bytes13_yes _ _ _ _ (by omega)).mono ?_; rintro e w' ⟨rfl, rfl⟩))
      refine (clone_some _ _ _ _ _ hn HC.out).mono ?_
      rintro e w1 ⟨rfl, hb, hs, hr⟩
      have hc0 := hr.cell (i := 0) (by omega)
      have HR : Hid (w1.rowIs w.heap.size 5 n fun i => Value.int IntKind.u8 (f i)) := hr
      clear hr
      go_wp2_with (first | (go_at_call 15; refine (small_no _ _ _ _ _ h1 h18 (fun i hi => HR.out.cell hi) HF.out (.inr H0.out)).mono ?_; rintro e w' ⟨rfl, rfl⟩) | (go_at_call 16; refine (all_yes _ _ _ _ _ h18 (fun i hi => HR.out.cell hi) hd).mono ?_; rintro e w' ⟨rfl, rfl⟩))
      go_ret
      exact ⟨rfl, hb⟩
  · go_enter Try.func5, Try.ntmps5
    go_wp2_with (first | (go_at_call 13; refine (bytes13_yes _ _ _ _ (by omega)).mono ?_; rintro e w' ⟨rfl, rfl⟩))
    refine (clone_some _ _ _ _ _ hn HC.out).mono ?_
    rintro e w1 ⟨rfl, hb, hs, hr⟩
    have hc0 := hr.cell (i := 0) (by omega)
    have HR : Hid (w1.rowIs w.heap.size 5 n fun i => Value.int IntKind.u8 (f i)) := hr
    clear hr
    go_wp2_with (first | (go_at_call 15; refine (small_no _ _ _ _ _ h1 h18 (fun i hi => HR.out.cell hi) HF.out (.inl hd)).mono ?_; rintro e w' ⟨rfl, rfl⟩) | (go_at_call 16; refine (all_no _ _ _ _ _ h18 (fun i hi => HR.out.cell hi) hd).mono ?_; rintro e w' ⟨rfl, rfl⟩))
    go_ret
    exact ⟨rfl, hb⟩

theorem walk (a0 : Option Addr) (len0 cap0 : Nat) (z0 : List Int) (w : World) (w0 : IsRow .u8 w a0 len0 cap0 z0) :
    Calls Try.prog 5 #[.slice a0 len0 cap0] w fun e w' => e = .returned (.bool true) ∧ Below w.heap.size w w' := by
  by_cases hlen : 1048576 < len0
  · have hm : len0 ≤ 9223372036854775807 := by
      rcases w0 with ⟨_, h, _⟩ | ⟨_, _, h1, h2, _⟩
      · omega
      · unfold maxLen at h2; omega
    go_enter Try.func5, Try.ntmps5
    go_wp2_with (go_at_call 13; refine (bytes13_no _ _ _ _ hlen hm).mono ?_; rintro e w' ⟨rfl, rfl⟩)
    go_ret
    exact ⟨rfl, Below.refl _ _⟩
  rcases w0 with ⟨rfl, rfl, rfl, rfl⟩ | ⟨x, rfl, hl, hm, hz, hc, hwf⟩
  · go_enter Try.func5, Try.ntmps5
    go_wp2_with (first | (go_at_call 13; refine (bytes13_yes _ _ _ _ (by omega)).mono ?_; rintro e w' ⟨rfl, rfl⟩) | (go_at_call 14; refine (clone_nil _).mono ?_; rintro e w' ⟨rfl, rfl⟩) | (go_at_call 15; refine (small15_of ((small_none _ _ _).mono fun e w' h => ⟨⟨_, _, h.1⟩, h⟩)).mono ?_; rintro e w' ⟨rfl, rfl⟩))
    go_ret
    exact ⟨rfl, Below.refl _ _⟩
  · have hn : len0 ≤ 1048576 := by omega
    have hf : ∀ i, 0 ≤ z0.getD i 0 ∧ z0.getD i 0 ≤ 255 := fun i => by
      by_cases hi : i < z0.length
      · have := hwf (z0.getD i 0) (by simp [List.getD, List.getElem?_eq_getElem hi])
        have := bounds_u8 this
        omega
      · simp [List.getD, List.getElem?_eq_none (Nat.le_of_not_lt hi)]
    exact walk_some x len0 cap0 (fun i => z0.getD i 0) w hn hf (fun i hi => hc i (by omega))

/-! ### THE ROW's STEP: WRITTEN OUT: LEAVE IT -/
set_option maxRecDepth 100000 in
theorem lifted (os : Os) (started : os.Started) (H : Type) (enc : TypeId × Value → H) :
    ReturnsInHanded {} Try.checked os 5 .any (Rows.fnSmallIntegerExactSpec.pre6 enc Try.prog Try.f5 Rows.fnSmallIntegerExactRow.domain false) (Rows.fnSmallIntegerExactSpec.post enc Try.prog Try.f5 false true false false) := by
  refine returnsInHanded_of_change (C := Try.checked) own started (by kernel_rfl) Try.func5
    (ChangeSpec.witness6 (enc := enc) (C := Try.checked) false ⟨#[], #[.slice none 0 0], []⟩ 8 (by kernel_rfl) (by kernel_rfl) (by kernel_rfl) (by kernel_rfl)) ?_
  intro W base args ds gs before hval0 hW hcnd _
  have hval : ∀ (j : Nat) t v, Try.f5.params[j]? = some t → args[j]? = some v → Value.okWide Try.prog W .any base t v := hval0
  have hW' := hW
  obtain ⟨p, q, hA0, hV, rfl, hfz, hnd⟩ := hW
  have hA : DataW.TrodAll enc Try.prog W 0 (fun _ => true) true Try.f5.params.toList args.toList ds p := hA0
  rw [Try.params5] at hA hval
  obtain ⟨v0, vs0, d0, ds0, p0, q0, hargs, rfl, rfl, h0, r0⟩ := trodAll_cons hA
  obtain ⟨rfl, rfl, rfl⟩ := trodAll_nil r0
  obtain rfl : args = #[v0] := by cases args; simp_all
  obtain ⟨rfl, rfl⟩ := trodVars_none hV
  obtain ⟨a0, len0, cap0, rfl⟩ := okWide_slice Try.underlying28 (hval 0 28 v0 rfl rfl)
  have k0 := h0
  have lt0 : ∀ x ∈ p0, x.block < W.heap.size := by obtain ⟨m, hm⟩ := k0; exact DataW.trod_lt m _ _ _ hm
  obtain ⟨z0, w0⟩ : ∃ zs, IsRow .u8 W a0 len0 cap0 zs := by
    obtain ⟨fuel, hf⟩ := h0
    rcases open_ints Try.underlying28 Try.underlying5 (by kernel_rfl) hf with ⟨hcs, _⟩ | ⟨x, l, c, zs, hcs, _, hl, hm, hz, _, hcell, hwz⟩
    · simp [Value.cells] at hcs
      obtain ⟨rfl, rfl, rfl⟩ := hcs
      exact ⟨[], .inl ⟨rfl, rfl, rfl, rfl⟩⟩
    · simp [Value.cells] at hcs
      obtain ⟨rfl, rfl, rfl⟩ := hcs
      exact ⟨zs, .inr ⟨_, rfl, hl, hm, by simpa using hz, hcell, hwz⟩⟩
  clear hA0 hval0
  refine (walk a0 len0 cap0 z0 W w0).mono fun e W' ⟨he, bel⟩ => ?_
  subst he
  exact ⟨_, rfl, _, _, _, [], _, [], hW', trodAll_mk1 (shut_bool Try.underlying4 _), (trodAll_cons_mk (Below.trod laidOut (by kernel_rfl) (of_decide_eq_true (by kernel_rfl)) k0 bel lt0) trodAll_mk0), rfl, bel.frame _, fun h => by cases h⟩

theorem over : Rows.fnSmallIntegerExactRow.holds Try.pinned (OpenSpec.ofChange Rows.fnSmallIntegerExactSpec) :=
  OpenClaim.holds_of_wide 5 Try.f5 rfl rfl rfl rfl rfl rfl rfl ⟨rfl, rfl, rfl, rfl, rfl⟩ rfl rfl rfl rfl rfl (by kernel_rfl) Try.func5 (by kernel_rfl)
    (of_decide_eq_true (by kernel_rfl)) (by unfold Func.isWrapper; first | (rw [if_pos (by decide +kernel)]; kernel_rfl) | (rw [if_neg (by decide +kernel)]; exact ⟨rfl, rfl⟩))
    (fun os started H enc _ => lifted os started H enc)

/-- ████ THE STATEMENT ████ -/
theorem proved : Rows.FnSmallIntegerExactSaid := over
end Go.Proofs.Qxb6601730a.fnSmallIntegerExact

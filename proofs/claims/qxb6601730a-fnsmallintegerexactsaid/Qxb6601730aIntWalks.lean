/-
  The walks of FnSmallIntegerExact's callees.
-/
import Derived.Test.Qxb6601730aRows
import Derived.Test.Qxb6601730aIntPlain
import Derived.WalkKit
import Derived.WalkSpells
import Derived.WalkLawsBesides
import Derived.Deep.OwnRows
import Derived.Deep.QuietTactic
import Derived.BigQuiet
namespace Go.Proofs.Qxb6601730a
open Go.RowKit Go.Proofs.Qxb6601730a.Plain

theorem Try.info5 : (Try.prog.info? 5).map (fun i => (i.zero, i.size, i.bytes)) = some (some (.int .u8 0), 1, 1) := by kernel_rfl

theorem digs_succ {f : Nat → Int} {k : Nat} (h : digs f k) (h1 : 48 ≤ f k) (h2 : f k ≤ 57) : digs f (k + 1) := fun i hi => by
  by_cases e : i = k
  · subst e; exact ⟨h1, h2⟩
  · exact h i (by omega)

/-- zzBytes: within the bound. -/
theorem bytes13_yes (a : Option Addr) (n c : Nat) (w : World) (h : n ≤ 1048576) :
    Calls Try.prog 13 #[.slice a n c] w fun e w' => e = .returned (.bool true) ∧ w = w' := by
  go_enter Try.func13, Try.ntmps13
  go_wp2
  go_ret
  exact ⟨rfl, rfl⟩
theorem bytes13_no (a : Option Addr) (n c : Nat) (w : World) (h : 1048576 < n) (hm : n ≤ 9223372036854775807) :
    Calls Try.prog 13 #[.slice a n c] w fun e w' => e = .returned (.bool false) ∧ w = w' := by
  go_enter Try.func13, Try.ntmps13
  go_wp2
  go_ret
  exact ⟨rfl, rfl⟩

/-- zzCloneBytes of nil. -/
theorem clone_nil (w : World) : Calls Try.prog 14 #[.slice none 0 0] w fun e w' => e = .returned (.slice none 0 0) ∧ w = w' := by
  have hn := fun (w : World) => Lib.run_eql_slice_nil (P := Try.prog) w 28 5 none 0 0 0 0 Try.underlying28
  go_enter Try.func14, Try.ntmps14
  go_wp2
  go_ret
  exact ⟨rfl, rfl⟩

theorem add_block (x : Addr) (i : Nat) : (x.add i).block = x.block := by unfold Addr.add; split <;> rfl
theorem cell_lt {w : World} {p : Addr} {v : Value} (h : w.cell? p = some v) : p.block < w.heap.size := by
  rcases Nat.lt_or_ge p.block w.heap.size with h' | h'
  · exact h'
  · simp [World.cell?, Array.getElem?_eq_none h'] at h

theorem clone_step {w wr : World} {n k : Nat} {f : Nat → Int} (hr : wr.rowIs w.heap.size 5 n (fun j => if j < k then .int .u8 (f j) else .int .u8 0)) :
    (wr.setCell ⟨w.heap.size, k, none⟩ (.int .u8 (f k))).rowIs w.heap.size 5 n (fun j => if j < k + 1 then .int .u8 (f j) else .int .u8 0) := by
  refine (hr.set k _).congr fun j _ => ?_
  by_cases e : j = k
  · subst e; simp
  · by_cases h : j < k
    · simp [e, h, show j < k + 1 by omega]
    · simp [e, h, show ¬ j < k + 1 by omega]

theorem clone_some (x : Addr) (n c : Nat) (f : Nat → Int) (w : World) (hn : n ≤ 1048576) (hc : ∀ i, i < n → w.cell? (x.add i) = some (.int .u8 (f i))) :
    Calls Try.prog 14 #[.slice (some x) n c] w fun e w' => e = .returned (.slice (some ⟨w.heap.size, 0, none⟩) n n) ∧ Below w.heap.size w w' ∧ w'.heap.size = w.heap.size + 1 ∧ w'.rowIs w.heap.size 5 n (fun i => .int .u8 (f i)) := by
  have hnil := fun (w : World) => Lib.run_eql_slice_nil (P := Try.prog) w 28 5 (some x) n c 0 0 Try.underlying28
  have hmk := fun (w : World) => run_make_row' (P := Try.prog) 28 5 (.int .u8 0) 1 Try.underlying28 Try.info5 rfl .i64 .i64 n (by omega) (by omega) w
  go_enter Try.func14, Try.ntmps14
  go_wp2
  go_loopw [4] (fun i wr => ∃ k : Nat, k ≤ n ∧ i = .int .i64 k ∧ Below w.heap.size w wr ∧ wr.heap.size = w.heap.size + 1 ∧ wr.rowIs w.heap.size 5 n (fun j => if j < k then .int .u8 (f j) else .int .u8 0)) (fun i _ => n - (intOf i).toNat)
  case atStart => exact ⟨0, Nat.zero_le _, rfl, (Below.refl _ _).alloc (Nat.le_refl _) _, by simp, (World.rowIs_made w _ n 5).congr (fun j _ => by simp)⟩
  case round =>
    obtain ⟨k, hk, rfl, hb, hs, hr⟩ := hrel
    by_cases hlt : k < n
    · have hcx : wr.cell? (x.add k) = some (.int .u8 (f k)) := (hb.cell (cell_lt (hc k hlt))).trans (hc k hlt)
      have hfz := hr.frozen k
      obtain ⟨v0, hv0⟩ : ∃ v0, wr.cell? ⟨w.heap.size, k, none⟩ = some v0 := ⟨_, hr.cell hlt⟩
      go_wp2
      go_roundw
      case rel => exact ⟨k + 1, by omega, by go_num, hb.setCell (Nat.le_refl _) _, by simpa using hs, clone_step hr⟩
      case measure => simp [intOf]; omega
    · go_wp2
      go_ret
      exact ⟨rfl, hb, hs, hr.congr fun j hj => by simp [show j < k by omega]⟩

/-- smallInteger, refused at its head. -/
theorem small_none (c : Nat) (a : Option Addr) (w : World) :
    Calls Try.prog 25 #[.slice a 0 c] w fun e w' => e = .returned (.tuple #[.int .i64 0, .bool false]) ∧ w = w' := by
  go_enter Try.func25, Try.ntmps25
  go_wp2
  go_ret2
  exact ⟨rfl, rfl⟩
theorem small_long (n c : Nat) (a : Option Addr) (w : World) (h : 18 < n) (hm : n ≤ 1048576) :
    Calls Try.prog 25 #[.slice a n c] w fun e w' => e = .returned (.tuple #[.int .i64 0, .bool false]) ∧ w = w' := by
  go_enter Try.func25, Try.ntmps25
  go_wp2
  go_ret2
  exact ⟨rfl, rfl⟩
theorem small_zero (n c b : Nat) (f : Nat → Int) (w : World) (h : 1 < n) (hm : n ≤ 18) (hr : ∀ i, i < n → w.cell? ⟨b, i, none⟩ = some (.int .u8 (f i))) (h0 : f 0 = 48) :
    Calls Try.prog 25 #[.slice (some ⟨b, 0, none⟩) n c] w fun e w' => e = .returned (.tuple #[.int .i64 0, .bool false]) ∧ w = w' := by
  have hc := hr 0 (by omega)
  rw [h0] at hc
  clear hr
  go_enter Try.func25, Try.ntmps25
  go_wp2
  go_ret2
  exact ⟨rfl, rfl⟩
theorem small_loop (n c b : Nat) (f : Nat → Int) (w : World) (h : 1 ≤ n) (hm : n ≤ 18) (hr : ∀ i, i < n → w.cell? ⟨b, i, none⟩ = some (.int .u8 (f i))) (h0 : f 0 ≠ 48 ∨ n = 1) (hf : ∀ i, 0 ≤ f i ∧ f i ≤ 255) :
    Calls Try.prog 25 #[.slice (some ⟨b, 0, none⟩) n c] w fun e w' => ((digs f n ∧ e = .returned (.tuple #[.int .i64 (val f n), .bool true])) ∨ (¬ digs f n ∧ e = .returned (.tuple #[.int .i64 0, .bool false]))) ∧ w = w' := by
  have hc := hr 0 (by omega)
  have hn1 : (0 : Int) < (n : Int) := by omega
  have hn0 : ((n : Int) == 0) = false := by simp; omega
  have hn18 : decide ((18 : Int) < (n : Int)) = false := by simp; omega
  have HR : Hid (∀ i, i < n → w.cell? ⟨b, i, none⟩ = some (.int .u8 (f i))) := hr
  have HF : Hid (∀ i, 0 ≤ f i ∧ f i ≤ 255) := hf
  have hd : (f 0 == 48) = false ∨ ((f 0 == 48) = true ∧ decide ((1 : Int) < (n : Int)) = false) := by
    rcases h0 with h0 | h0
    · left; simpa using h0
    · subst h0; cases (f 0 == 48) <;> simp
  clear hr h0 hf
  rcases hd with hd | ⟨hd, hn2⟩
  all_goals
    go_enter Try.func25, Try.ntmps25
    go_wp2
    go_loop [4, 28] (fun v i => ∃ k : Nat, k ≤ n ∧ digs f k ∧ i = .int .i64 k ∧ v = .int .i64 (val f k)) (fun _ i => n - (intOf i).toNat)
    case atStart => exact ⟨0, Nat.zero_le _, fun i hi => absurd hi (Nat.not_lt_zero _), rfl, rfl⟩
    case round =>
      obtain ⟨k, hk, hdk, rfl, rfl⟩ := hrel
      by_cases hlt : k < n
      · have hcx := HR.out k hlt
        have hfk := HF.out k
        have hv := val_le17 hdk (by omega)
        by_cases h48 : f k < 48
        · go_wp2
          go_ret2
          exact ⟨.inr ⟨fun hh => by have := hh k hlt; omega, rfl⟩, rfl⟩
        · by_cases h57 : 57 < f k
          · go_wp2
            go_ret2
            exact ⟨.inr ⟨fun hh => by have := hh k hlt; omega, rfl⟩, rfl⟩
          · go_wp2
            go_round
            case rel => exact ⟨k + 1, by omega, digs_succ hdk (by omega) (by omega), by go_num, rfl⟩
            case measure => simp [intOf]; omega
      · go_wp2
        go_ret2
        have : k = n := by omega
        subst this
        exact ⟨.inl ⟨hdk, rfl⟩, rfl⟩

theorem small15_of {a : Value} {Q : Ending → World → Prop} {w : World} (h : Calls Try.prog 25 #[a] w fun e w' => (∃ v b, e = .returned (.tuple #[v, b])) ∧ Q e w') : Calls Try.prog 15 #[a] w Q := by
  go_enter Try.func15, Try.ntmps15
  go_wp2_with fail
  refine h.mono ?_
  rintro e w' ⟨⟨v, b, rfl⟩, hq⟩
  go_wp2
  exact hq

/-- zzAllDigits. -/
theorem all_digits (n c b : Nat) (f : Nat → Int) (w : World) (hm : n ≤ 18) (hr : ∀ i, i < n → w.cell? ⟨b, i, none⟩ = some (.int .u8 (f i))) :
    Calls Try.prog 16 #[.slice (some ⟨b, 0, none⟩) n c] w fun e w' => ((digs f n ∧ e = .returned (.bool true)) ∨ (¬ digs f n ∧ e = .returned (.bool false))) ∧ w = w' := by
  have HR : Hid (∀ i, i < n → w.cell? ⟨b, i, none⟩ = some (.int .u8 (f i))) := hr
  clear hr
  go_enter Try.func16, Try.ntmps16
  go_wp2
  go_loop [3] (fun i => ∃ k : Nat, k ≤ n ∧ digs f k ∧ i = .int .i64 k) (fun i => n - (intOf i).toNat)
  case atStart => exact ⟨0, Nat.zero_le _, fun i hi => absurd hi (Nat.not_lt_zero _), rfl⟩
  case round =>
    obtain ⟨k, hk, hdk, rfl⟩ := hrel
    by_cases hlt : k < n
    · have hcx := HR.out k hlt
      by_cases h48 : f k < 48
      · go_wp2
        go_ret
        exact ⟨.inr ⟨fun hh => by have := hh k hlt; omega, rfl⟩, rfl⟩
      · by_cases h57 : 57 < f k
        · go_wp2
          go_ret
          exact ⟨.inr ⟨fun hh => by have := hh k hlt; omega, rfl⟩, rfl⟩
        · go_wp2
          go_round
          case rel => exact ⟨k + 1, by omega, digs_succ hdk (by omega) (by omega), by go_num⟩
          case measure => simp [intOf]; omega
    · go_wp2
      go_ret
      have : k = n := by omega
      subst this
      exact ⟨.inl ⟨hdk, rfl⟩, rfl⟩

/-- zzItoa at 0. -/
theorem itoa_zero (w : World) : Calls Try.prog 17 #[.int .i64 0] w fun e w' => e = .returned (.string ⟨#[48]⟩) ∧ w = w' := by
  go_enter Try.func17, Try.ntmps17
  go_wp2
  go_ret
  exact ⟨rfl, rfl⟩

theorem itoa_start (w : World) (f : Nat → Int) (n : Nat) : (w.alloc (Obj.cells #[Value.int IntKind.u8 0, Value.int IntKind.u8 0, Value.int IntKind.u8 0, Value.int IntKind.u8 0, Value.int IntKind.u8 0, Value.int IntKind.u8 0, Value.int IntKind.u8 0, Value.int IntKind.u8 0, Value.int IntKind.u8 0, Value.int IntKind.u8 0, Value.int IntKind.u8 0, Value.int IntKind.u8 0, Value.int IntKind.u8 0, Value.int IntKind.u8 0, Value.int IntKind.u8 0, Value.int IntKind.u8 0, Value.int IntKind.u8 0, Value.int IntKind.u8 0, Value.int IntKind.u8 0, Value.int IntKind.u8 0] 49)).rowIs
    w.heap.size 49 20 fun j => if j < 20 then Value.int IntKind.u8 0 else Value.int IntKind.u8 (f (j + n - 20)) := by
  have h : (w.alloc (.cells (madeCells #[.int .u8 0] 20) 49)).rowIs w.heap.size 49 20 (fun _ => .int .u8 0) := World.rowIs_made w (.int .u8 0) 20 49
  have e : madeCells #[Value.int .u8 0] 20 = #[Value.int IntKind.u8 0, Value.int IntKind.u8 0, Value.int IntKind.u8 0, Value.int IntKind.u8 0, Value.int IntKind.u8 0, Value.int IntKind.u8 0, Value.int IntKind.u8 0, Value.int IntKind.u8 0, Value.int IntKind.u8 0, Value.int IntKind.u8 0, Value.int IntKind.u8 0, Value.int IntKind.u8 0, Value.int IntKind.u8 0, Value.int IntKind.u8 0, Value.int IntKind.u8 0, Value.int IntKind.u8 0, Value.int IntKind.u8 0, Value.int IntKind.u8 0, Value.int IntKind.u8 0, Value.int IntKind.u8 0] := by kernel_rfl
  rw [e] at h
  exact h.congr fun j hj => by rw [if_pos hj]

theorem itoa_step {w wr : World} {n q m : Nat} {f : Nat → Int} (hr : wr.rowIs w.heap.size 49 20 (fun j => if j < q + 1 then .int .u8 0 else .int .u8 (f (j + n - 20)))) (hq : q + n = m + 20) :
    (wr.setCell ⟨w.heap.size, q, none⟩ (.int .u8 (f m))).rowIs w.heap.size 49 20 (fun j => if j < q then .int .u8 0 else .int .u8 (f (j + n - 20))) := by
  refine (hr.set q _).congr fun j _ => ?_
  by_cases e : j = q
  · subst e
    have e2 : j + n - 20 = m := by omega
    simp [e2]
  · by_cases h : j < q
    · simp [e, h, show j < q + 1 by omega]
    · simp [e, h, show ¬ j < q + 1 by omega]

theorem itoa_slice {B : Nat} (q : Nat) (hq : q < 20) (W : World) : (Instr.sliceAt 49 (.pointer (some ⟨B, 0, none⟩)) (some (.int .i64 (q : Int))) none none).run Try.prog W =
    .ok (.slice (some ⟨B, q, none⟩) (20 - q) (20 - q)) W := by
  have hal : Try.prog.arrayLen 49 = 20 := by simp [Program.arrayLen, Try.underlying49]
  rw [run_sliceAt_array_l W 49 ⟨B, 0, none⟩ (by simp [Program.arrayLen, Program.elem, Try.underlying49]) .i64 (q : Int) (by omega) (by rw [hal]; omega)]
  go_simp
  omega

theorem itoa_conv {w : World} {B : Nat} (f : Nat → Int) (n q : Nat) (hq : q + n = 20) (hn : 1 ≤ n) (hr : ∀ j, j < 20 → w.cell? ⟨B, j, none⟩ = some (if j < q then .int .u8 0 else .int .u8 (f (j + n - 20)))) :
    (convert 28 9 (.slice (some ⟨B, q, none⟩) (20 - q) (20 - q))).run Try.prog w = .ok (.string (strOfNums ((List.range n).map f))) w := by
  have e : 20 - q = n := by omega
  rw [e]
  refine run_convert_bytes_arg (P := Try.prog) w 28 5 Try.underlying28 Try.underlying5 B q n n _ (by simp) (fun i hi => ?_) 9 Try.underlying9
  rw [hr (q + i) (by omega), if_neg (by omega), show q + i + n - 20 = i by omega]
  simp [hi]

theorem itoa_pos (n : Nat) (f : Nat → Int) (w : World) (h : 1 ≤ n) (hm : n ≤ 18) (hd : digs f n) (h0 : f 0 ≠ 48) :
    Calls Try.prog 17 #[.int .i64 (val f n)] w fun e w' => e = .returned (.string (strOfNums ((List.range n).map f))) ∧ Below w.heap.size w w' := by
  have hv := val_le hd hm
  have hp := val_pos h0 hd h
  have hb1 : decide (val f n < 0) = false := by simp; omega
  have hb2 : (val f n == 0) = false := by simp; omega
  have H0 : Hid (f 0 ≠ 48) := h0
  clear h0
  go_enter Try.func17, Try.ntmps17
  go_wp2
  go_loopw [0, 4] (fun v i wr => ∃ q m : Nat, Hid (q + n = m + 20) ∧ q ≤ 20 ∧ m ≤ n ∧ v = .int .i64 (val f m) ∧ i = .int .i64 q ∧ Below w.heap.size w wr ∧ wr.rowIs w.heap.size 49 20 (fun j => if j < q then .int .u8 0 else .int .u8 (f (j + n - 20)))) (fun v _ _ => (intOf v).toNat)
  case atStart => exact ⟨20, n, Nat.add_comm _ _, by omega, by omega, rfl, rfl, (Below.refl _ _).alloc (Nat.le_refl _) _, itoa_start w f n⟩
  case round =>
    obtain ⟨q, m, hqm, hq20, hmn, rfl, rfl, hb, hr⟩ := hrel
    rcases m with _ | m
    · have hq1 : q + n = 20 := by have := hqm.out; omega
      have HQ : Hid (q + n = 20) := hq1
      have hq2 : 2 ≤ q := by omega
      clear hq1
      have hz : val f 0 = 0 := rfl
      have hsl := itoa_slice (B := w.heap.size) q (by have := HQ.out; omega)
      have hcv := itoa_conv (w := wr) (B := w.heap.size) f n q HQ.out (by omega) (fun j hj => hr.cell hj)
      go_wp2
      go_ret
      exact ⟨rfl, hb⟩
    · have hdm := digs_mono hd hmn
      have hvm := val_le hdm (by omega)
      have hpm := val_pos H0.out hdm (by omega)
      have e1 := val_mod hdm
      have e2 := val_div hdm
      have e3 := hdm m (by omega)
      obtain ⟨q, rfl⟩ : ∃ p, q = p + 1 := ⟨q - 1, by have := hqm.out; omega⟩
      have hfz := hr.frozen q
      obtain ⟨v0, hv0⟩ : ∃ v0, wr.cell? ⟨w.heap.size, q, none⟩ = some v0 := ⟨_, hr.cell (by omega)⟩
      go_wp2
      go_roundw
      case rel => exact ⟨q, m, by have := hqm.out; show q + n = m + 20; omega, by omega, by omega, by rw [e2], rfl, hb.setCell (Nat.le_refl _) _, itoa_step hr (by have := hqm.out; omega)⟩
      case measure => simp only [intOf]; omega
end Go.Proofs.Qxb6601730a

/-
  The walks of cloneBytes, hex4, hexValue.
-/
import Derived.Test.Qxb6000096aRows
import Derived.Test.Qxb6000096aHex
import Derived.WalkKit
import Derived.WalkSpells
import Derived.WalkLawsBesides
import Derived.Deep.OwnRows
set_option linter.unusedVariables false
namespace Go.Proofs.Qxb6000096a
open Go.RowKit Go.Proofs.Qxb6000096a.Hex

theorem Try.info5 : (Try.prog.info? 5).map (fun i => (i.zero, i.size, i.bytes)) = some (some (.int .u8 0), 1, 1) := by kernel_rfl

theorem cell_lt {w : World} {p : Addr} {v : Value} (h : w.cell? p = some v) : p.block < w.heap.size := by
  rcases Nat.lt_or_ge p.block w.heap.size with h' | h'
  · exact h'
  · simp [World.cell?, Array.getElem?_eq_none h'] at h

theorem clone_nil (w : World) : Calls Try.prog 8 #[.slice none 0 0] w fun e w' => e = .returned (.slice none 0 0) ∧ w = w' := by
  have hn := fun (w : World) => Lib.run_eql_slice_nil (P := Try.prog) w 22 5 none 0 0 0 0 Try.underlying22
  go_enter Try.func8, Try.ntmps8
  go_wp2
  go_ret
  exact ⟨rfl, rfl⟩

theorem clone_step {w wr : World} {n k : Nat} {f : Nat → Int} (hr : wr.rowIs w.heap.size 5 n (fun j => if j < k then .int .u8 (f j) else .int .u8 0)) :
    (wr.setCell ⟨w.heap.size, k, none⟩ (.int .u8 (f k))).rowIs w.heap.size 5 n (fun j => if j < k + 1 then .int .u8 (f j) else .int .u8 0) := by
  refine (hr.set k _).congr fun j _ => ?_
  by_cases e : j = k
  · subst e; simp
  · by_cases h : j < k
    · simp [e, h, show j < k + 1 by omega]
    · simp [e, h, show ¬ j < k + 1 by omega]

theorem clone_some (x : Addr) (n c : Nat) (f : Nat → Int) (w : World) (hn : n ≤ 1048576) (hc : ∀ i, i < n → w.cell? (x.add i) = some (.int .u8 (f i))) :
    Calls Try.prog 8 #[.slice (some x) n c] w fun e w' => e = .returned (.slice (some ⟨w.heap.size, 0, none⟩) n n) ∧ Below w.heap.size w w' ∧ w'.heap.size = w.heap.size + 1 ∧ w'.rowIs w.heap.size 5 n (fun i => .int .u8 (f i)) := by
  have hnil := fun (w : World) => Lib.run_eql_slice_nil (P := Try.prog) w 22 5 (some x) n c 0 0 Try.underlying22
  have hmk := fun (w : World) => run_make_row' (P := Try.prog) 22 5 (.int .u8 0) 1 Try.underlying22 Try.info5 rfl .i64 .i64 n (by omega) (by omega) w
  go_enter Try.func8, Try.ntmps8
  go_wp2
  go_loopw [4] (fun i wr => ∃ k : Nat, k ≤ n ∧ i = .int .i64 k ∧ Below w.heap.size w wr ∧ wr.heap.size = w.heap.size + 1 ∧ wr.rowIs w.heap.size 5 n (fun j => if j < k then .int .u8 (f j) else .int .u8 0)) (fun i _ => n - (intOf i).toNat)
  case atStart => exact ⟨0, Nat.zero_le _, rfl, (Below.refl _ _).alloc (Nat.le_refl _) _, by simp, (World.rowIs_made w _ n 5).congr (fun j _ => by simp)⟩
  case round =>
    obtain ⟨k, hk, rfl, hb, hs, hr⟩ := hrel
    by_cases hlt : k < n
    · have hcx : wr.cell? (x.add k) = some (.int .u8 (f k)) := (hb.cell (cell_lt (hc k hlt))).trans (hc k hlt)
      have hfz := hr.frozen k
      obtain ⟨v0, hv0⟩ : ∃ v0, wr.cell? ⟨w.heap.size, k, none⟩ = some v0 := ⟨_, hr.cell hlt⟩
      go_wp2
      go_roundw
      case rel => exact ⟨k + 1, by omega, by go_num, hb.setCell (Nat.le_refl _) _, by simpa using hs, clone_step hr⟩
      case measure => simp [intOf]; omega
    · go_wp2
      go_ret
      exact ⟨rfl, hb, hs, hr.congr fun j hj => by simp [show j < k by omega]⟩

/-- hex4: too short. -/
theorem hex4_short (a : Option Addr) (n c : Nat) (w : World) (h : n < 4) :
    Calls Try.prog 14 #[.slice a n c] w fun e w' => e = .returned (.tuple #[.int .i32 0, .bool false]) ∧ w = w' := by
  go_enter Try.func14, Try.ntmps14
  go_wp2
  go_ret2
  exact ⟨rfl, rfl⟩

set_option maxHeartbeats 1000000 in
theorem hex4_long (b off n c : Nat) (f : Nat → Int) (w : World) (h : 4 ≤ n) (hn : n ≤ 9223372036854775807) (hnc : n ≤ c) (hc : c ≤ 9223372036854775807) (hr : ∀ i, i < 4 → w.cell? ⟨b, off + i, none⟩ = some (.int .u8 (f i))) (hf : ∀ i, 0 ≤ f i ∧ f i ≤ 255) :
    Calls Try.prog 14 #[.slice (some ⟨b, off, none⟩) n c] w fun e w' => ((∃ r, hx f 4 = some r ∧ e = .returned (.tuple #[.int .i32 (r : Nat), .bool true])) ∨ (hx f 4 = none ∧ e = .returned (.tuple #[.int .i32 0, .bool false]))) ∧ w = w' := by
  have HR : Hid (∀ i, i < 4 → w.cell? ⟨b, off + i, none⟩ = some (.int .u8 (f i))) := hr
  have HF : Hid (∀ i, 0 ≤ f i ∧ f i ≤ 255) := hf
  clear hr hf
  go_enter Try.func14, Try.ntmps14
  go_wp2
  go_loop [4, 13] (fun v i => ∃ k r : Nat, k ≤ 4 ∧ i = .int .i64 k ∧ v = .int .i32 r ∧ Hid (hx f k = some r)) (fun _ i => 4 - (intOf i).toNat)
  case atStart => exact ⟨0, 0, Nat.zero_le _, rfl, rfl, rfl⟩
  case round =>
    obtain ⟨k, r, hk, rfl, rfl, hxk⟩ := hrel
    by_cases hlt : k < 4
    · have hcx := HR.out k hlt
      have hfk := HF.out k
      have hr4 : r < 4096 := Nat.lt_of_lt_of_le (hx_lt hxk.out) (pw_four hlt)
      by_cases c1 : 48 ≤ f k ∧ f k ≤ 57
      · obtain ⟨c1a, c1b⟩ := c1
        have hor := or16 r (f k - 48) hr4 (by omega) (by omega)
        have HS := hx_succ hxk.out (hv_dec ⟨c1a, c1b⟩)
        have HS' : Hid (hx f (k + 1) = some (r * 16 + (f k - 48).toNat)) := HS
        clear HS hxk
        go_wp2
        go_round
        case rel => exact ⟨k + 1, r * 16 + (f k - 48).toNat, by omega, by go_num, by go_num, HS'⟩
        case measure => simp [intOf]; omega
      · rcases (show f k < 48 ∨ (58 ≤ f k ∧ f k ≤ 64) ∨ (65 ≤ f k ∧ f k ≤ 70) ∨ (71 ≤ f k ∧ f k ≤ 96) ∨ (97 ≤ f k ∧ f k ≤ 102) ∨ 103 ≤ f k by omega) with c2 | ⟨c2, c3⟩ | ⟨c2, c3⟩ | ⟨c2, c3⟩ | ⟨c2, c3⟩ | c2 <;> clear c1
        · have d1 : decide ((48 : Int) ≤ f k) = false := decide_eq_false (by omega)
          have d2 : decide ((97 : Int) ≤ f k) = false := decide_eq_false (by omega)
          have d3 : decide ((65 : Int) ≤ f k) = false := decide_eq_false (by omega)
          have HN := hx_four hlt (hv_none (c := f k) (by omega) (by omega) (by omega))
          have HN' : Hid (hx f 4 = none) := HN
          clear HN hxk
          go_wp2
          go_ret2
          exact ⟨.inr ⟨HN'.out, rfl⟩, rfl⟩
        · have d2 : decide ((97 : Int) ≤ f k) = false := decide_eq_false (by omega)
          have d3 : decide ((65 : Int) ≤ f k) = false := decide_eq_false (by omega)
          have HN := hx_four hlt (hv_none (c := f k) (by omega) (by omega) (by omega))
          have HN' : Hid (hx f 4 = none) := HN
          clear HN hxk
          go_wp2
          go_ret2
          exact ⟨.inr ⟨HN'.out, rfl⟩, rfl⟩
        · have d2 : decide ((97 : Int) ≤ f k) = false := decide_eq_false (by omega)
          have hor := or16 r (f k - 55) hr4 (by omega) (by omega)
          have HS := hx_succ hxk.out (hv_up (c := f k) (by omega))
          have HS' : Hid (hx f (k + 1) = some (r * 16 + (f k - 55).toNat)) := HS
          clear HS hxk
          go_wp2
          go_round
          case rel => exact ⟨k + 1, r * 16 + (f k - 55).toNat, by omega, by go_num, by go_num, HS'⟩
          case measure => simp [intOf]; omega
        · have d2 : decide ((97 : Int) ≤ f k) = false := decide_eq_false (by omega)
          have HN := hx_four hlt (hv_none (c := f k) (by omega) (by omega) (by omega))
          have HN' : Hid (hx f 4 = none) := HN
          clear HN hxk
          go_wp2
          go_ret2
          exact ⟨.inr ⟨HN'.out, rfl⟩, rfl⟩
        · have d9 : (97 : Int) ≤ f k := c2
          have hor := or16 r (f k - 87) hr4 (by omega) (by omega)
          have HS := hx_succ hxk.out (hv_low (c := f k) (by omega))
          have HS' : Hid (hx f (k + 1) = some (r * 16 + (f k - 87).toNat)) := HS
          clear HS hxk
          go_wp2
          go_round
          case rel => exact ⟨k + 1, r * 16 + (f k - 87).toNat, by omega, by go_num, by go_num, HS'⟩
          case measure => simp [intOf]; omega
        · have d9 : (97 : Int) ≤ f k := by omega
          have HN := hx_four hlt (hv_none (c := f k) (by omega) (by omega) (by omega))
          have HN' : Hid (hx f 4 = none) := HN
          clear HN hxk
          go_wp2
          go_ret2
          exact ⟨.inr ⟨HN'.out, rfl⟩, rfl⟩
    · have hk4 : k = 4 := by omega
      subst hk4
      go_wp2
      go_ret2
      exact ⟨.inl ⟨r, hxk.out, rfl⟩, rfl⟩

/-- ZZHex4 hands on. -/
theorem zzhex_of {a : Value} {Q : Ending → World → Prop} {w : World} (h : Calls Try.prog 14 #[a] w fun e w' => (∃ v b, e = .returned (.tuple #[v, b])) ∧ Q e w') : Calls Try.prog 9 #[a] w Q := by
  go_enter Try.func9, Try.ntmps9
  go_wp2_with fail
  refine h.mono ?_
  rintro e w' ⟨⟨v, b, rfl⟩, hq⟩
  go_wp2
  exact hq
theorem zzhex_short (a : Option Addr) (n c : Nat) (w : World) (h : n < 4) :
    Calls Try.prog 9 #[.slice a n c] w fun e w' => e = .returned (.tuple #[.int .i32 0, .bool false]) ∧ w = w' :=
  zzhex_of ((hex4_short a n c w h).mono fun e w' h => ⟨⟨_, _, h.1⟩, h⟩)
theorem zzhex_yes (b off n c : Nat) (f : Nat → Int) (r : Nat) (w : World) (h : 4 ≤ n) (hn : n ≤ 9223372036854775807) (hnc : n ≤ c) (hc : c ≤ 9223372036854775807) (hr : ∀ i, i < 4 → w.cell? ⟨b, off + i, none⟩ = some (.int .u8 (f i))) (hf : ∀ i, 0 ≤ f i ∧ f i ≤ 255) (hx4 : hx f 4 = some r) :
    Calls Try.prog 9 #[.slice (some ⟨b, off, none⟩) n c] w fun e w' => e = .returned (.tuple #[.int .i32 r, .bool true]) ∧ w = w' :=
  zzhex_of ((hex4_long b off n c f w h hn hnc hc hr hf).mono fun e w' h => by
    rcases h with ⟨⟨r', h1, h2⟩ | ⟨h1, _⟩, hw⟩
    · rw [hx4] at h1
      cases h1
      exact ⟨⟨_, _, h2⟩, h2, hw⟩
    · rw [hx4] at h1
      cases h1)
theorem zzhex_no (b off n c : Nat) (f : Nat → Int) (w : World) (h : 4 ≤ n) (hn : n ≤ 9223372036854775807) (hnc : n ≤ c) (hc : c ≤ 9223372036854775807) (hr : ∀ i, i < 4 → w.cell? ⟨b, off + i, none⟩ = some (.int .u8 (f i))) (hf : ∀ i, 0 ≤ f i ∧ f i ≤ 255) (hx4 : hx f 4 = none) :
    Calls Try.prog 9 #[.slice (some ⟨b, off, none⟩) n c] w fun e w' => e = .returned (.tuple #[.int .i32 0, .bool false]) ∧ w = w' :=
  zzhex_of ((hex4_long b off n c f w h hn hnc hc hr hf).mono fun e w' h => by
    rcases h with ⟨⟨r', h1, h2⟩ | ⟨h1, h2⟩, hw⟩
    · rw [hx4] at h1
      cases h1
    · exact ⟨⟨_, _, h2⟩, h2, hw⟩)

end Go.Proofs.Qxb6000096a

/-
  parentOf where there is no dimension; ZZParentOf.
-/
import Derived.Test.Qxb6600053aSmall
import Derived.BigRegion
set_option linter.unusedVariables false
namespace Go.Proofs.Qxb6600053a
open Go.RowKit Go.Proofs.Qxb6600053a.Ord

set_option maxHeartbeats 1000000 in
theorem parent_zero (a1 a2 a3 a4 a5 : Option Addr) (c1 c2 c3 c4 c5 : Nat) (w : World) :
    Calls Try.prog 33 #[.agg #[.slice a1 0 c1, .slice a2 0 c2], .agg #[.slice a3 0 c3, .slice a4 0 c4], .slice a5 0 c5] w fun e w' =>
      e = .returned (.tuple #[.agg #[.slice none 0 0, .slice none 0 0], .bool false]) ∧ Below w.heap.size w w' := by
  have i4 : (Try.prog.info? 4).map (fun i => (i.zero, i.size, i.bytes)) = some (some (.bool false), 1, 1) := by kernel_rfl
  have hmkA : ∀ w, (Instr.makeSlice 22 (.int .i64 0) (.int .i64 0)).run Try.prog w = .ok (.slice (some ⟨w.heap.size, 0, none⟩) 0 0) (w.alloc (.cells (madeCells #[.float .f64 0] 0) 30)) := fun (w : World) => run_make_row' (P := Try.prog) 22 30 (.float .f64 0) 8 Try.underlying22 Try.info30 rfl .i64 .i64 0 (by omega) (by omega) w
  have hmkB : ∀ w, (Instr.makeSlice 41 (.int .i64 0) (.int .i64 0)).run Try.prog w = .ok (.slice (some ⟨w.heap.size, 0, none⟩) 0 0) (w.alloc (.cells (madeCells #[.bool false] 0) 4)) := fun (w : World) => run_make_row' (P := Try.prog) 41 4 (.bool false) 1 Try.underlying41 i4 rfl .i64 .i64 0 (by omega) (by omega) w
  clear i4
  go_enter Try.func33, Try.ntmps33
  go_wp2
  go_region
  all_goals
    go_wp2
    go_loop [8, 22] (fun st i => st = .int .i64 (-1) ∧ i = .int .i64 0) (fun _ _ => 0)
    case atStart => exact ⟨rfl, rfl⟩
    case round =>
      obtain ⟨rfl, rfl⟩ := hrel
      go_wp2
      refine bodyPost_ret (v := .tuple #[.agg #[.slice none 0 0, .slice none 0 0], .bool false]) (by simp [results, Try.results33, go_sem]) rfl ⟨rfl, ?_⟩
      exact ((((((Below.refl _ w).alloc (Nat.le_refl _) _).alloc (by simp) _).alloc (by simp; omega) _).alloc (by simp; omega) _).alloc (by simp; omega) _).drew

/-- ZZParentOf lays the position out. -/
theorem zzparent_of {s1 s2 s3 s4 e5 : Value} {w : World} {Q : Nat → Nat → Bool → Prop}
    (h : ∀ W : World, Below w.heap.size w W → Calls Try.prog 33 #[.agg #[s1, s2], .agg #[s3, s4], e5] W fun e w' => (∃ a1 n1 k1 a2 n2 k2 ch, e = .returned (.tuple #[.agg #[.slice a1 n1 k1, .slice a2 n2 k2], .bool ch]) ∧ Q n1 n2 ch) ∧ Below W.heap.size W w') :
    Calls Try.prog 26 #[.agg #[s1, s2], .agg #[s3, s4], e5] w fun e w' => (∃ a1 n1 k1 a2 n2 k2 ch, e = .returned (.tuple #[.slice a1 n1 k1, .slice a2 n2 k2, .bool ch]) ∧ Q n1 n2 ch) ∧ Below w.heap.size w w' := by
  have hW : Below w.heap.size w ((w.alloc (.cells #[s1, s2] 26)).alloc (.cells #[s3, s4] 26)) := ((Below.refl _ w).alloc (Nat.le_refl _) _).alloc (by simp) _
  have h' := h _ hW
  have H : Hid (Calls Try.prog 33 #[.agg #[s1, s2], .agg #[s3, s4], e5] ((w.alloc (.cells #[s1, s2] 26)).alloc (.cells #[s3, s4] 26)) fun e w' => (∃ a1 n1 k1 a2 n2 k2 ch, e = .returned (.tuple #[.agg #[.slice a1 n1 k1, .slice a2 n2 k2], .bool ch]) ∧ Q n1 n2 ch) ∧ Below ((w.alloc (.cells #[s1, s2] 26)).alloc (.cells #[s3, s4] 26)).heap.size ((w.alloc (.cells #[s1, s2] 26)).alloc (.cells #[s3, s4] 26)) w') := h'
  clear h h'
  go_enter Try.func26, Try.ntmps26
  go_wp2_with fail
  refine H.out.mono ?_
  rintro e w1 ⟨⟨a1, n1, k1, a2, n2, k2, ch, rfl, hq⟩, hb⟩
  have hs := hb.size
  simp at hs
  have HB : Hid (Below w.heap.size w w1) := hW.trans (hb.mono (by simp; omega))
  have HQ : Hid (Q n1 n2 ch) := hq
  clear hb hW hq H
  go_wp2
  go_quiet (fail)
  go_wp2
  go_ret3
  exact ⟨⟨_, _, _, _, _, _, _, rfl, HQ.out⟩, below_drewN (HB.out.alloc (by omega) _) _⟩

end Go.Proofs.Qxb6600053a

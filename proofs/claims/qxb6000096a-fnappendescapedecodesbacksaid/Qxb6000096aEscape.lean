/-
  appendEscape of nil: a row of its own, the escape's bytes.
-/
import Derived.Test.Qxb6000096aHexWalks
import Derived.Lib.FrozenHead2
import Derived.Deep.RegionLaw
import Derived.Deep.RegionLawGrows
set_option linter.unusedVariables false
namespace Go.Proofs.Qxb6000096a
open Go.RowKit Go.Proofs.Qxb6000096a.Hex

/-- The escape of c. -/
def es (c : Nat) : List Nat :=
  if c = 34 ∨ c = 92 then [92, c] else if c = 8 then [92, 98] else if c = 12 then [92, 102] else if c = 10 then [92, 110] else if c = 13 then [92, 114] else if c = 9 then [92, 116]
  else [92, 117, 48, 48, ch false (c / 16), ch false (c % 16)]

/-- What the call hands back: a slice at the head of a row of its own, these bytes in it. -/
def Out (w : World) (l : List Nat) (e : Ending) (w' : World) : Prop :=
  ∃ g cap, e = .returned (.slice (some ⟨g, 0, none⟩) l.length cap) ∧ l.length ≤ cap ∧ cap ≤ maxLen ∧ Below w.heap.size w w' ∧ ∀ i, i < l.length → w'.cell? ⟨g, i, none⟩ = some (.int .u8 (l.getD i 0 : Nat))

theorem out_of {w w1 w' : World} {v : Value} {l : List Nat} (h0 : l ≠ []) (hown : w'.ownsRowF w.heap.size 5 1 v l.length (l.map fun x => Value.int .u8 (x : Nat))) (hb : Below w.heap.size w w') : Out w l (.returned v) w' := by
  rcases hown.2 with ⟨_, hn⟩ | ⟨g, cap, cur, fz, rfl, hg, hgg, _, hc1, hc2, _, ht⟩
  · exact absurd (List.eq_nil_of_length_eq_zero hn) h0
  · refine ⟨g, cap, rfl, hc1, hc2, hb, fun i hi => ?_⟩
    have := hown.cells (g := g) rfl i (.int .u8 (l.getD i 0 : Nat)) (by simp [hi])
    rwa [show (⟨g, 0, none⟩ : Addr).add i = ⟨g, i, none⟩ by unfold Addr.add; split <;> simp_all] at this

set_option maxHeartbeats 1000000 in
theorem esc_two (c : Nat) (w : World) (hc : c = 34 ∨ c = 92) : Calls Try.prog 15 #[.slice none 0 0, .int .u8 c] w fun e w' => Out w [92, c] e w' := by
  obtain ⟨i0, hi, hz0, hz1, hz2⟩ := info_parts Try.info5
  have g1 : ((c : Int) == 34) = true ∨ (((c : Int) == 34) = false ∧ ((c : Int) == 92) = true) := by simp; omega
  have hcb : c < 256 := by omega
  clear hc
  rcases g1 with g1 | ⟨g1, g2⟩
  all_goals
    go_enter Try.func15, Try.ntmps15
    go_wp2_with (at_builtin; refine wpList_append_ownF _ rfl (.tmp 9) (.tmp 11) 22 rfl w.heap.size 5 i0 (.int .u8 0) 1 1 Try.underlying22 hi hz0 hz1 hz2 rfl (by decide) _ _ _ rfl (World.ownsRowF_nil _ _ _ _) ⟨w.heap.size, 0, none⟩ 2 2 [.int .u8 92, .int .u8 c] rfl rfl ?c1 ?c2 ?c3 ?c4 ?c5 ?_)
    case c1 =>
      intro j u hj
      match j, hj with
      | 0, hj => simp at hj; subst hj; simp [Addr.add]
      | 1, hj => simp at hj; subst hj; simp [Addr.add]
      | (j + 2), hj => simp at hj
    case c2 => intro u hu; simp at hu; rcases hu with rfl | rfl <;> rfl
    case c3 => unfold maxLen; omega
    case c4 => omega
    case c5 => simp
    intro v' w2 hown' hgrow _
    have hb2 := ((Below.refl _ w).alloc (Nat.le_refl _) _).grown hgrow (by simp) (fun k hk => by cases hk)
    go_wp2
    go_ret
    exact out_of (w1 := w) (by simp) (by simpa using hown') hb2

set_option maxHeartbeats 1000000 in
theorem esc_8 (w : World) : Calls Try.prog 15 #[.slice none 0 0, .int .u8 8] w fun e w' => Out w [92, 98] e w' := by
  obtain ⟨i0, hi, hz0, hz1, hz2⟩ := info_parts Try.info5
  go_enter Try.func15, Try.ntmps15
  go_wp2_with (at_builtin; refine Lib.wpList_append_own_stringF _ rfl _ _ 22 9 rfl w.heap.size 5 i0 Try.underlying22 Try.underlying9 hi hz0 hz1 hz2 _ _ _ rfl (World.ownsRowF_nil _ _ _ _) ⟨#[92, 98]⟩ rfl ?c3 ?c4 ?c5 ?_)
  all_goals first
    | (intro v' w2 hown' hgrow _; have hb2 := (Below.refl _ w).grown hgrow (Nat.le_refl _) (fun k hk => by cases hk); go_wp2; go_ret; exact out_of (w1 := w) (by simp) (by simpa [Lib.strCells] using hown') hb2)
    | (show 0 + 2 ≤ maxLen; unfold maxLen; omega)
    | (show 0 + 2 ≤ 140737488355328; omega)
    | exact Nat.le_refl _

set_option maxHeartbeats 1000000 in
theorem esc_12 (w : World) : Calls Try.prog 15 #[.slice none 0 0, .int .u8 12] w fun e w' => Out w [92, 102] e w' := by
  obtain ⟨i0, hi, hz0, hz1, hz2⟩ := info_parts Try.info5
  go_enter Try.func15, Try.ntmps15
  go_wp2_with (at_builtin; refine Lib.wpList_append_own_stringF _ rfl _ _ 22 9 rfl w.heap.size 5 i0 Try.underlying22 Try.underlying9 hi hz0 hz1 hz2 _ _ _ rfl (World.ownsRowF_nil _ _ _ _) ⟨#[92, 102]⟩ rfl ?c3 ?c4 ?c5 ?_)
  all_goals first
    | (intro v' w2 hown' hgrow _; have hb2 := (Below.refl _ w).grown hgrow (Nat.le_refl _) (fun k hk => by cases hk); go_wp2; go_ret; exact out_of (w1 := w) (by simp) (by simpa [Lib.strCells] using hown') hb2)
    | (show 0 + 2 ≤ maxLen; unfold maxLen; omega)
    | (show 0 + 2 ≤ 140737488355328; omega)
    | exact Nat.le_refl _

set_option maxHeartbeats 1000000 in
theorem esc_10 (w : World) : Calls Try.prog 15 #[.slice none 0 0, .int .u8 10] w fun e w' => Out w [92, 110] e w' := by
  obtain ⟨i0, hi, hz0, hz1, hz2⟩ := info_parts Try.info5
  go_enter Try.func15, Try.ntmps15
  go_wp2_with (at_builtin; refine Lib.wpList_append_own_stringF _ rfl _ _ 22 9 rfl w.heap.size 5 i0 Try.underlying22 Try.underlying9 hi hz0 hz1 hz2 _ _ _ rfl (World.ownsRowF_nil _ _ _ _) ⟨#[92, 110]⟩ rfl ?c3 ?c4 ?c5 ?_)
  all_goals first
    | (intro v' w2 hown' hgrow _; have hb2 := (Below.refl _ w).grown hgrow (Nat.le_refl _) (fun k hk => by cases hk); go_wp2; go_ret; exact out_of (w1 := w) (by simp) (by simpa [Lib.strCells] using hown') hb2)
    | (show 0 + 2 ≤ maxLen; unfold maxLen; omega)
    | (show 0 + 2 ≤ 140737488355328; omega)
    | exact Nat.le_refl _

set_option maxHeartbeats 1000000 in
theorem esc_13 (w : World) : Calls Try.prog 15 #[.slice none 0 0, .int .u8 13] w fun e w' => Out w [92, 114] e w' := by
  obtain ⟨i0, hi, hz0, hz1, hz2⟩ := info_parts Try.info5
  go_enter Try.func15, Try.ntmps15
  go_wp2_with (at_builtin; refine Lib.wpList_append_own_stringF _ rfl _ _ 22 9 rfl w.heap.size 5 i0 Try.underlying22 Try.underlying9 hi hz0 hz1 hz2 _ _ _ rfl (World.ownsRowF_nil _ _ _ _) ⟨#[92, 114]⟩ rfl ?c3 ?c4 ?c5 ?_)
  all_goals first
    | (intro v' w2 hown' hgrow _; have hb2 := (Below.refl _ w).grown hgrow (Nat.le_refl _) (fun k hk => by cases hk); go_wp2; go_ret; exact out_of (w1 := w) (by simp) (by simpa [Lib.strCells] using hown') hb2)
    | (show 0 + 2 ≤ maxLen; unfold maxLen; omega)
    | (show 0 + 2 ≤ 140737488355328; omega)
    | exact Nat.le_refl _

set_option maxHeartbeats 1000000 in
theorem esc_9 (w : World) : Calls Try.prog 15 #[.slice none 0 0, .int .u8 9] w fun e w' => Out w [92, 116] e w' := by
  obtain ⟨i0, hi, hz0, hz1, hz2⟩ := info_parts Try.info5
  go_enter Try.func15, Try.ntmps15
  go_wp2_with (at_builtin; refine Lib.wpList_append_own_stringF _ rfl _ _ 22 9 rfl w.heap.size 5 i0 Try.underlying22 Try.underlying9 hi hz0 hz1 hz2 _ _ _ rfl (World.ownsRowF_nil _ _ _ _) ⟨#[92, 116]⟩ rfl ?c3 ?c4 ?c5 ?_)
  all_goals first
    | (intro v' w2 hown' hgrow _; have hb2 := (Below.refl _ w).grown hgrow (Nat.le_refl _) (fun k hk => by cases hk); go_wp2; go_ret; exact out_of (w1 := w) (by simp) (by simpa [Lib.strCells] using hown') hb2)
    | (show 0 + 2 ≤ maxLen; unfold maxLen; omega)
    | (show 0 + 2 ≤ 140737488355328; omega)
    | exact Nat.le_refl _

theorem own_base {w : World} {B B' n : Nat} {v : Value} {xs : List Value} (h : w.ownsRow B' 5 1 v n xs) (hB : B ≤ B') : w.ownsRowF B 5 1 v n xs := by
  have h' := World.ownsRowF_of h
  refine ⟨h'.1, ?_⟩
  rcases h'.2 with hn | ⟨g, cap, cur, fz, hv, hb, r⟩
  · exact .inl hn
  · exact .inr ⟨g, cap, cur, fz, hv, Nat.le_trans hB hb, r⟩
theorem six_cells (w : World) (a b c d e f : Int) : ∀ j u, ([Value.int .u8 a, .int .u8 b, .int .u8 c, .int .u8 d, .int .u8 e, .int .u8 f] : List Value)[j]? = some u →
    ((w.alloc (.cells #[.int .u8 a, .int .u8 b, .int .u8 c, .int .u8 d, .int .u8 e, .int .u8 f] 5)).drew).cell? ((⟨w.heap.size, 0, none⟩ : Addr).add j) = some u := by
  intro j u hj
  match j, hj with
  | 0, hj => simp at hj; subst hj; simp [Addr.add]
  | 1, hj => simp at hj; subst hj; simp [Addr.add]
  | 2, hj => simp at hj; subst hj; simp [Addr.add]
  | 3, hj => simp at hj; subst hj; simp [Addr.add]
  | 4, hj => simp at hj; subst hj; simp [Addr.add]
  | 5, hj => simp at hj; subst hj; simp [Addr.add]
  | (j + 6), hj => simp at hj
theorem six_one (a b c d e f : Int) : ∀ u ∈ ([Value.int .u8 a, .int .u8 b, .int .u8 c, .int .u8 d, .int .u8 e, .int .u8 f] : List Value), u.oneCell' = true := by
  intro u hu
  simp at hu
  rcases hu with rfl | rfl | rfl | rfl | rfl | rfl <;> rfl

set_option maxHeartbeats 1000000 in
theorem esc_six (c : Nat) (w : World) (hc : c < 256) (g1 : ((c : Int) == 34) = false) (g2 : ((c : Int) == 92) = false) (g3 : ((c : Int) == 8) = false) (g4 : ((c : Int) == 12) = false) (g5 : ((c : Int) == 10) = false) (g6 : ((c : Int) == 13) = false) (g7 : ((c : Int) == 9) = false) :
    Calls Try.prog 15 #[.slice none 0 0, .int .u8 c] w fun e w' => Out w [92, 117, 48, 48, ch false (c / 16), ch false (c % 16)] e w' := by
  obtain ⟨i0, hi, hz0, hz1, hz2⟩ := info_parts Try.info5
  have h15 := and15_u8 c hc
  rw [show ((c % 16 : Nat) : Int) = (c : Int) % 16 by omega] at h15
  have q1 : c / 16 < (⟨#[48, 49, 50, 51, 52, 53, 54, 55, 56, 57, 97, 98, 99, 100, 101, 102]⟩ : ByteArray).size := by show c / 16 < 16; omega
  have q2 : c % 16 < (⟨#[48, 49, 50, 51, 52, 53, 54, 55, 56, 57, 97, 98, 99, 100, 101, 102]⟩ : ByteArray).size := by show c % 16 < 16; omega
  have k1 : (0 : Int) ≤ (c : Int) / 16 := by omega
  have k2 : (c : Int) / 16 < 16 := by omega
  have k3 : (0 : Int) ≤ (c : Int) % 16 := by omega
  have k4 : (c : Int) % 16 < 16 := by omega
  go_enter Try.func15, Try.ntmps15
  go_wp2
  go_region_law (refine step_append_grows rfl (.tmp 33) (.tmp 40) 22 rfl 5 i0 (.int .u8 0) 1 1 Try.underlying22 hi hz0 hz1 hz2 rfl (by decide) none 0 0 [] (by simp [Act.eval]) (fun _ => ⟨rfl, rfl⟩) rfl (fun b h => by cases h) ⟨w.heap.size, 0, none⟩ 6 6 [.int .u8 92, .int .u8 117, .int .u8 48, .int .u8 48, .int .u8 ((⟨#[48, 49, 50, 51, 52, 53, 54, 55, 56, 57, 97, 98, 99, 100, 101, 102]⟩ : ByteArray)[c / 16]'q1).toNat, .int .u8 ((⟨#[48, 49, 50, 51, 52, 53, 54, 55, 56, 57, 97, 98, 99, 100, 101, 102]⟩ : ByteArray)[c % 16]'q2).toNat] (by simp [Act.eval]) rfl (six_cells _ _ _ _ _ _ _) (six_one _ _ _ _ _ _) (by omega) (by unfold maxLen; omega) (by omega) ?_; intro v' w2 hown hgrow)
  all_goals
    have hb2 : Below w.heap.size w w2 := (((Below.refl _ w).alloc (Nat.le_refl _) _).drew).grown hgrow (by show w.heap.size ≤ (World.alloc _ _).heap.size; simp) (fun k hk => by cases hk)
    have ho1 := own_base (B := w.heap.size) hown (by show w.heap.size ≤ (w.heap.push _).size; simp)
    simp only [low_at, List.nil_append, Nat.zero_add] at ho1
    have ho2 : w2.ownsRowF w.heap.size 5 1 v' 6 ([92, 117, 48, 48, ch false (c / 16), ch false (c % 16)].map fun x => Value.int .u8 (x : Nat)) := ho1
    clear hown hgrow
    go_wp2
    go_ret
    exact out_of (w1 := w) (by simp) ho2 hb2

/-- appendEscape of nil, whatever the byte. -/
theorem esc_any (c : Nat) (w : World) (hc : c < 256) : Calls Try.prog 15 #[.slice none 0 0, .int .u8 c] w fun e w' => Out w (es c) e w' := by
  unfold es
  by_cases c1 : c = 34 ∨ c = 92
  · rw [if_pos c1]; exact esc_two c w c1
  rw [if_neg c1]
  by_cases c2 : c = 8
  · rw [if_pos c2]; subst c2; exact esc_8 w
  rw [if_neg c2]
  by_cases c3 : c = 12
  · rw [if_pos c3]; subst c3; exact esc_12 w
  rw [if_neg c3]
  by_cases c4 : c = 10
  · rw [if_pos c4]; subst c4; exact esc_10 w
  rw [if_neg c4]
  by_cases c5 : c = 13
  · rw [if_pos c5]; subst c5; exact esc_13 w
  rw [if_neg c5]
  by_cases c6 : c = 9
  · rw [if_pos c6]; subst c6; exact esc_9 w
  rw [if_neg c6]
  exact esc_six c w hc (beq_eq_false_iff_ne.2 (by omega)) (beq_eq_false_iff_ne.2 (by omega)) (beq_eq_false_iff_ne.2 (by omega)) (beq_eq_false_iff_ne.2 (by omega)) (beq_eq_false_iff_ne.2 (by omega)) (beq_eq_false_iff_ne.2 (by omega)) (beq_eq_false_iff_ne.2 (by omega))

/-- ZZAppendEscape hands on. -/
theorem zzesc_any (c : Nat) (w : World) (hc : c < 256) : Calls Try.prog 13 #[.slice none 0 0, .int .u8 c] w fun e w' => Out w (es c) e w' := by
  go_enter Try.func13, Try.ntmps13
  go_wp2_with fail
  refine (esc_any c _ hc).mono ?_
  rintro e w' ⟨g, cap, rfl, h⟩
  go_wp2
  go_ret
  exact ⟨g, cap, rfl, h⟩

end Go.Proofs.Qxb6000096a

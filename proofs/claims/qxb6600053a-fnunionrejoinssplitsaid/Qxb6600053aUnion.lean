/-
  The walk of (Zone).union where the two zones differ in dimension k alone, and abut there.
-/
import Derived.Test.Qxb6600053aUnionIn
import Derived.Deep.RegionHeld
set_option linter.unusedVariables false
namespace Go.Proofs.Qxb6600053a
open Go.RowKit Go.Proofs.Qxb6600053a.Ord
attribute [local go_sem] run_store_float

/-- What the loads of the region that makes the joint zone read. -/
theorem heldU {w W : World} {z1 z2 z3 z4 : Value} (u : UIn w W z1 z2 z3 z4) :
    W.cell? ⟨w.heap.size, 0, none⟩ = some z1 ∧ W.cell? ⟨w.heap.size, 1, none⟩ = some z2 ∧ UIn w W z1 z2 z3 z4 :=
  ⟨by rw [Lib.cell_of_heap u.boxZ]; rfl, by rw [Lib.cell_of_heap u.boxZ]; rfl, u⟩
theorem Own.alloc {w : World} {b n : Nat} {f : Nat → Nat} (h : Own w b n f) (o : Obj) : Own (w.alloc o) b n f := h.below ((Below.refl _ _).alloc (Nat.le_refl _) o) h.lt
/-- slices.Clone in a world inside union. -/
theorem cloneU {w W : World} {z1 z2 z3 z4 : Value} (x : Addr) (n c : Nat) (f : Nat → Nat) (h1 : 1 ≤ n) (hn : n ≤ 1048576) (hr : FRow w x n f)
    (hS : W.cell? ⟨w.heap.size, 0, none⟩ = some z1 ∧ W.cell? ⟨w.heap.size, 1, none⟩ = some z2 ∧ UIn w W z1 z2 z3 z4) :
    Calls Try.prog 34 #[.slice (some x) n c] W fun e w' => ∃ b cap, e = .returned (.slice (some ⟨b, 0, none⟩) n cap) ∧ W.heap.size ≤ b ∧ b < w'.heap.size ∧ Below W.heap.size W w' ∧ Own w' b n f ∧ w.heap.size + 1 + 1 < b ∧ UIn w w' z1 z2 z3 z4 := by
  have u := hS.2.2
  refine (clone34 x n c f W h1 hn (hr.below u.below)).mono ?_
  rintro e w' ⟨b, cap, he, h1, h2, h3, h4⟩
  have := u.size
  exact ⟨b, cap, he, h1, h2, h3, h4, by omega, u.later h3 u.size⟩

set_option maxHeartbeats 20000000 in
theorem union_pos (x1 x2 y1 y2 : Addr) (n k c1 c2 c3 c4 : Nat) (f1 f2 g1 g2 p1 p2 : Nat → Nat) (w : World) (hn : n ≤ 1048576) (hk : k < n)
    (h1 : FRow w x1 n f1) (h2 : FRow w x2 n f2) (h3 : FRow w y1 n g1) (h4 : FRow w y2 n g2)
    (he : ∀ i, i < n → i ≠ k → O (f1 i) (g1 i) = some .eq ∧ O (f2 i) (g2 i) = some .eq) (hne : O (f1 k) (g1 k) ≠ some .eq)
    (hab : O (f2 k) (g1 k) = some .eq ∨ (O (f2 k) (g1 k) ≠ some .eq ∧ O (g2 k) (f1 k) = some .eq))
    (s1 : (O (f1 k) (g1 k)).isSome = true) (s2 : (O (f2 k) (g2 k)).isSome = true)
    (e1 : ∀ i, i < n → (if i = k then mn (f1 k) (g1 k) else f1 i) = p1 i) (e2 : ∀ i, i < n → (if i = k then mx (f2 k) (g2 k) else f2 i) = p2 i) :
    Calls Try.prog 30 #[.agg #[.slice (some x1) n c1, .slice (some x2) n c2], .agg #[.slice (some y1) n c3, .slice (some y2) n c4]] w fun e w' =>
      (∃ b1 b2 k1 k2, e = .returned (.tuple #[.agg #[.slice (some ⟨b1, 0, none⟩) n k1, .slice (some ⟨b2, 0, none⟩) n k2], .bool true]) ∧ FRow w' ⟨b1, 0, none⟩ n p1 ∧ FRow w' ⟨b2, 0, none⟩ n p2) ∧ Below w.heap.size w w' := by
  have HR : Hid (FRow w x1 n f1 ∧ FRow w x2 n f2 ∧ FRow w y1 n g1 ∧ FRow w y2 n g2) := ⟨h1, h2, h3, h4⟩
  have HE : Hid (∀ i, i < n → i ≠ k → O (f1 i) (g1 i) = some .eq ∧ O (f2 i) (g2 i) = some .eq) := he
  have HNE : Hid (O (f1 k) (g1 k) ≠ some .eq) := hne
  have HAB : Hid (O (f2 k) (g1 k) = some .eq ∨ (O (f2 k) (g1 k) ≠ some .eq ∧ O (g2 k) (f1 k) = some .eq)) := hab
  have HP : Hid ((∀ i, i < n → (if i = k then mn (f1 k) (g1 k) else f1 i) = p1 i) ∧ (∀ i, i < n → (if i = k then mx (f2 k) (g2 k) else f2 i) = p2 i)) := ⟨e1, e2⟩
  have HS : Hid ((O (f1 k) (g1 k)).isSome = true ∧ (O (f2 k) (g2 k)).isSome = true) := ⟨s1, s2⟩
  clear h1 h2 h3 h4 he hne hab e1 e2 s1 s2
  go_enter Try.func30, Try.ntmps30
  go_wp2
  go_loopw [6, 12] (fun st i wr => ∃ j : Nat, j ≤ n ∧ i = .int .i64 j ∧ UIn w wr (.slice (some x1) n c1) (.slice (some x2) n c2) (.slice (some y1) n c3) (.slice (some y2) n c4) ∧ ((j ≤ k ∧ st = .int .i64 (-1)) ∨ (k < j ∧ st = .int .i64 k))) (fun _ i _ => n - (intOf i).toNat)
  case atStart => exact ⟨0, Nat.zero_le _, rfl, ustart w _ _ _ _, .inl ⟨Nat.zero_le _, rfl⟩⟩
  case round =>
    obtain ⟨j, hj, rfl, hU, hst⟩ := hrel
    obtain ⟨r1, r2, r3, r4⟩ := HR.out
    have a0 : wr.cell? ⟨w.heap.size, 0, none⟩ = some (.slice (some x1) n c1) := by rw [Lib.cell_of_heap hU.boxZ]; rfl
    have a1 : wr.cell? ⟨w.heap.size, 1, none⟩ = some (.slice (some x2) n c2) := by rw [Lib.cell_of_heap hU.boxZ]; rfl
    have a2 : wr.cell? ⟨w.heap.size + 1, 0, none⟩ = some (.slice (some y1) n c3) := by rw [Lib.cell_of_heap hU.boxO]; rfl
    have a3 : wr.cell? ⟨w.heap.size + 1, 1, none⟩ = some (.slice (some y2) n c4) := by rw [Lib.cell_of_heap hU.boxO]; rfl
    by_cases hlt : j < n
    · have hlt' : (j : Int) < (n : Int) := by omega
      have q1 := (r1.below hU.below) j hlt
      have q2 := (r2.below hU.below) j hlt
      have q3 := (r3.below hU.below) j hlt
      have q4 := (r4.below hU.below) j hlt
      clear r1 r2 r3 r4
      by_cases hjk : j = k
      · subst hjk
        rcases hst with ⟨_, rfl⟩ | ⟨hx, _⟩
        rotate_left
        · exact absurd hx (Nat.lt_irrefl _)
        have b1 : (FloatKind.f64.format.order (f1 j) (g1 j) == some Ordering.eq) = false := by simpa [O] using HNE.out
        go_wp2
        go_quiet (fail)
        go_wp2
        go_roundw
        case rel => exact ⟨j + 1, by omega, by go_num, hU.drewN _, .inr ⟨by omega, rfl⟩⟩
        case measure => simp [intOf]; omega
      · obtain ⟨o1, o2⟩ := HE.out j hlt hjk
        have b1 : (FloatKind.f64.format.order (f1 j) (g1 j) == some Ordering.eq) = true := by simpa [O] using o1
        have b2 : (FloatKind.f64.format.order (f2 j) (g2 j) == some Ordering.eq) = true := by simpa [O] using o2
        clear o1 o2
        rcases hst with ⟨h, rfl⟩ | ⟨h, rfl⟩
        · go_wp2
          go_quiet (fail)
          go_wp2
          go_roundw
          case rel => exact ⟨j + 1, by omega, by go_num, hU.drewN _, .inl ⟨by omega, rfl⟩⟩
          case measure => simp [intOf]; omega
        · go_wp2
          go_quiet (fail)
          go_wp2
          go_roundw
          case rel => exact ⟨j + 1, by omega, by go_num, hU.drewN _, .inr ⟨by omega, rfl⟩⟩
          case measure => simp [intOf]; omega
    · rcases hst with ⟨hx, _⟩ | ⟨hx, rfl⟩
      · exact absurd hk (by omega)
      have hkn' : (k : Int) < (n : Int) := by omega
      have q1 := (r1.below hU.below) k hk
      have q2 := (r2.below hU.below) k hk
      have q3 := (r3.below hU.below) k hk
      have q4 := (r4.below hU.below) k hk
      clear r1 r2 r3 r4
      have hk0 : decide ((k : Int) < 0) = false := decide_eq_false (by omega)
      have hcase : ((FloatKind.f64.format.order (f2 k) (g1 k) != some Ordering.eq) = false) ∨ ((FloatKind.f64.format.order (f2 k) (g1 k) != some Ordering.eq) = true ∧ (FloatKind.f64.format.order (g2 k) (f1 k) != some Ordering.eq) = false) := by
        rcases HAB.out with o1 | ⟨o1, o2⟩
        · exact .inl (by rw [show FloatKind.f64.format.order (f2 k) (g1 k) = some .eq from o1]; rfl)
        · exact .inr ⟨by simpa [O] using o1, by rw [show FloatKind.f64.format.order (g2 k) (f1 k) = some .eq from o2]; rfl⟩
      have h1n : 1 ≤ n := by omega
      clear HAB HE HNE
      go_wp2_with fail
      go_cut [71] from 44 to 70 (fun s71 wx => s71 = .bool false ∧ UIn w wx (.slice (some x1) n c1) (.slice (some x2) n c2) (.slice (some y1) n c3) (.slice (some y2) n c4))
      case first =>
        rcases hcase with b1 | ⟨b1, b2⟩
        all_goals
          go_quiet (fail)
          try go_wp2_with fail
          go_meet
          exact ⟨rfl, hU.drewN _⟩
      case rest =>
        obtain ⟨rfl, hV⟩ := hcut
        clear a0 a1 a2 a3 q1 q2 q3 q4 hcase hU
        obtain ⟨r1, r2, r3, r4⟩ := HR.out
        have a0 : wc.cell? ⟨w.heap.size, 0, none⟩ = some (.slice (some x1) n c1) := by rw [Lib.cell_of_heap hV.boxZ]; rfl
        have a1 : wc.cell? ⟨w.heap.size, 1, none⟩ = some (.slice (some x2) n c2) := by rw [Lib.cell_of_heap hV.boxZ]; rfl
        have g0 : ∀ o : Obj, (wc.alloc o).cell? ⟨w.heap.size, 0, none⟩ = some (.slice (some x1) n c1) := fun o => by rw [Lib.cell_of_heap (hV.alloc o).boxZ]; rfl
        have g1 : ∀ o : Obj, (wc.alloc o).cell? ⟨w.heap.size, 1, none⟩ = some (.slice (some x2) n c2) := fun o => by rw [Lib.cell_of_heap (hV.alloc o).boxZ]; rfl
        have dwc : w.heap.size ≠ wc.heap.size := by have := hV.size; omega
        go_wp2_with fail
        go_cut [8] from 73 to 79 (fun s8 wx => ∃ B bA bB capA capB : Nat, s8 = .pointer (some ⟨B, 0, none⟩) ∧ UOut w wx (.slice (some x1) n c1) (.slice (some x2) n c2) (.slice (some y1) n c3) (.slice (some y2) n c4) n B bA bB capA capB f1 f2)
        case first =>
          have hvs := hV.size
          go_region_held (fun w' => w'.cell? ⟨w.heap.size, 0, none⟩ = some (.slice (some x1) n c1) ∧ w'.cell? ⟨w.heap.size, 1, none⟩ = some (.slice (some x2) n c2) ∧ UIn w w' (.slice (some x1) n c1) (.slice (some x2) n c2) (.slice (some y1) n c3) (.slice (some y2) n c4))
            (first | with_reducible exact heldU hV.drew | with_reducible exact heldU UA | with_reducible exact heldU UB | with_reducible exact heldU (UIn.drew (UIn.alloc hV _)) | with_reducible exact heldU (UIn.alloc (UIn.drew hV) _) | with_reducible exact heldU (UIn.alloc UA _) | with_reducible exact heldU (UIn.alloc UB _) | ((with_reducible refine heldU (UIn.set (UIn.set UB _ _ _ ?_) _ _ _ ?_)) <;> (have := UA.size; omega)) | ((with_reducible refine heldU (UIn.set (UIn.set UA _ _ _ ?_) _ _ _ ?_)) <;> (have := UB.size; omega)))
            (first | (go_at_call_of 34 x1; refine (cloneU x1 n c1 f1 h1n hn HR.out.1 (by assumption)).mono ?_; rintro e wA ⟨bA, capA, rfl, hA1, hA2, hA3, hA4, lA, UA⟩; (try (have ZA : Bare wA wc.heap.size := (by first | with_reducible exact Bare.below ZB hA3 | with_reducible exact Bare.below (Bare.made' wc) hA3 | with_reducible exact Bare.below (Bare.made wc) hA3); obtain ⟨yA1, yA2, yA3, yA4⟩ := ZA.facts)); (try (have YA : Bare wA wB.heap.size := (by with_reducible exact Bare.below (Bare.made wB) hA3); obtain ⟨yA1, yA2, yA3, yA4⟩ := YA.facts)); (try simp at hA1); (try (have dAB : bA ≠ bB := (by omega))))
                   | (go_at_call_of 34 x2; refine (cloneU x2 n c2 f2 h1n hn HR.out.2.1 (by assumption)).mono ?_; rintro e wB ⟨bB, capB, rfl, hB1, hB2, hB3, hB4, lB, UB⟩; (try (have ZB : Bare wB wc.heap.size := (by first | with_reducible exact Bare.below ZA hB3 | with_reducible exact Bare.below (Bare.made' wc) hB3 | with_reducible exact Bare.below (Bare.made wc) hB3); obtain ⟨yB1, yB2, yB3, yB4⟩ := ZB.facts)); (try (have YB : Bare wB wA.heap.size := (by with_reducible exact Bare.below (Bare.made wA) hB3); obtain ⟨yB1, yB2, yB3, yB4⟩ := YB.facts)); (try simp at hB1); (try (have dAB : bA ≠ bB := (by omega)))))
          all_goals (try go_wp2_with fail)
          all_goals go_meet
          all_goals refine ⟨_, bA, bB, capA, capB, rfl, ?_⟩
          all_goals have hsA := UA.size
          all_goals have hsB := UB.size
          all_goals first
            | with_reducible exact mkOut UB (hA4.below hB3 hA2) hB4 lA lB dAB
            | with_reducible exact mkOut UA hA4 (hB4.below hA3 hB2) lA lB dAB
            | (with_reducible refine mkOut2 UB YB (Own.below (Own.alloc hA4 _) hB3 ?_) hB4 lA lB ?_ dAB ?_ ?_) <;> (first | omega | (rw [World.size_alloc]; omega))
            | (with_reducible refine mkOut2 UA YA hA4 (Own.below (Own.alloc hB4 _) hA3 ?_) lA lB ?_ dAB ?_ ?_) <;> (first | omega | (rw [World.size_alloc]; omega))
            | (with_reducible refine mkOut2 UB ZB (hA4.below hB3 hA2) hB4 lA lB ?_ dAB ?_ ?_) <;> omega
            | (with_reducible refine mkOut2 UA ZA hA4 (hB4.below hA3 hB2) lA lB ?_ dAB ?_ ?_) <;> omega
        case rest =>
          obtain ⟨B, bA, bB, capA, capB, rfl, hO⟩ := hcut
          clear a0 a1 g0 g1 dwc hV
          have hmin := fun (ts : Array TypeId) (t : TypeId) (W : World) => run_min ts t (f1 k) (g1 k) HS.out.1 Try.prog W
          have hmax := fun (ts : Array TypeId) (t : TypeId) (W : World) => run_max ts t (f2 k) (g2 k) HS.out.2 Try.prog W
          obtain ⟨r1, r2, r3, r4⟩ := HR.out
          have HRR : Hid (FRow w x1 n f1 ∧ FRow w x2 n f2 ∧ FRow w y1 n g1 ∧ FRow w y2 n g2) := ⟨r1, r2, r3, r4⟩
          have u0 : wc.cell? ⟨w.heap.size, 0, none⟩ = some (.slice (some x1) n c1) := by rw [Lib.cell_of_heap hO.u.boxZ]; rfl
          have u1 : wc.cell? ⟨w.heap.size, 1, none⟩ = some (.slice (some x2) n c2) := by rw [Lib.cell_of_heap hO.u.boxZ]; rfl
          have u2 : wc.cell? ⟨w.heap.size + 1, 0, none⟩ = some (.slice (some y1) n c3) := by rw [Lib.cell_of_heap hO.u.boxO]; rfl
          have u3 : wc.cell? ⟨w.heap.size + 1, 1, none⟩ = some (.slice (some y2) n c4) := by rw [Lib.cell_of_heap hO.u.boxO]; rfl
          have u4 : wc.cell? ⟨B, 0, none⟩ = some (.slice (some ⟨bA, 0, none⟩) n capA) := by rw [Lib.cell_of_heap hO.boxR]; rfl
          have u5 : wc.cell? ⟨B, 1, none⟩ = some (.slice (some ⟨bB, 0, none⟩) n capB) := by rw [Lib.cell_of_heap hO.boxR]; rfl
          have v1 := (r1.below hO.u.below) k hk
          have v2 := (r2.below hO.u.below) k hk
          have v3 := (r3.below hO.u.below) k hk
          have v4 := (r4.below hO.u.below) k hk
          have t1 := hO.oA.frozen k
          have t2 := hO.oB.frozen k
          have t3 := hO.oA.cell hk
          have t4 := hO.oB.cell hk
          clear r1 r2 r3 r4
          go_wp2_with fail
          go_cut [] from 80 to 94 (fun wx => UOut w wx (.slice (some x1) n c1) (.slice (some x2) n c2) (.slice (some y1) n c3) (.slice (some y2) n c4) n B bA bB capA capB (fun i => if i = k then mn (f1 k) (g1 k) else f1 i) f2)
          case first =>
            go_region
            all_goals (try go_wp2_with fail)
            all_goals go_meet
            all_goals first | exact hO.drew.setA k _ | exact (hO.setA k _).drew
          case rest =>
            clear u0 u1 u2 u3 u4 u5 v1 v2 v3 v4 t1 t2 t3 t4
            have hO2 := hcut
            clear hO hcut hmin
            obtain ⟨r1, r2, r3, r4⟩ := HRR.out
            have u0 : wc.cell? ⟨w.heap.size, 0, none⟩ = some (.slice (some x1) n c1) := by rw [Lib.cell_of_heap hO2.u.boxZ]; rfl
            have u1 : wc.cell? ⟨w.heap.size, 1, none⟩ = some (.slice (some x2) n c2) := by rw [Lib.cell_of_heap hO2.u.boxZ]; rfl
            have u2 : wc.cell? ⟨w.heap.size + 1, 0, none⟩ = some (.slice (some y1) n c3) := by rw [Lib.cell_of_heap hO2.u.boxO]; rfl
            have u3 : wc.cell? ⟨w.heap.size + 1, 1, none⟩ = some (.slice (some y2) n c4) := by rw [Lib.cell_of_heap hO2.u.boxO]; rfl
            have u4 : wc.cell? ⟨B, 0, none⟩ = some (.slice (some ⟨bA, 0, none⟩) n capA) := by rw [Lib.cell_of_heap hO2.boxR]; rfl
            have u5 : wc.cell? ⟨B, 1, none⟩ = some (.slice (some ⟨bB, 0, none⟩) n capB) := by rw [Lib.cell_of_heap hO2.boxR]; rfl
            have v1 := (r1.below hO2.u.below) k hk
            have v2 := (r2.below hO2.u.below) k hk
            have v3 := (r3.below hO2.u.below) k hk
            have v4 := (r4.below hO2.u.below) k hk
            have t1 := hO2.oA.frozen k
            have t2 := hO2.oB.frozen k
            have t3 := hO2.oA.cell hk
            have t4 := hO2.oB.cell hk
            clear r1 r2 r3 r4
            go_wp2_with fail
            go_cut [] from 95 to 109 (fun wx => UOut w wx (.slice (some x1) n c1) (.slice (some x2) n c2) (.slice (some y1) n c3) (.slice (some y2) n c4) n B bA bB capA capB (fun i => if i = k then mn (f1 k) (g1 k) else f1 i) (fun i => if i = k then mx (f2 k) (g2 k) else f2 i))
            case first =>
              go_region
              all_goals (try go_wp2_with fail)
              all_goals go_meet
              all_goals first | exact hO2.drew.setB k _ | exact (hO2.setB k _).drew
            case rest =>
              clear u0 u1 u2 u3 u4 u5 v1 v2 v3 v4 t1 t2 t3 t4
              have hO3 := hcut
              clear hO2 hcut hmax
              have u4 : wc.cell? ⟨B, 0, none⟩ = some (.slice (some ⟨bA, 0, none⟩) n capA) := by rw [Lib.cell_of_heap hO3.boxR]; rfl
              have u5 : wc.cell? ⟨B, 1, none⟩ = some (.slice (some ⟨bB, 0, none⟩) n capB) := by rw [Lib.cell_of_heap hO3.boxR]; rfl
              have u6 : wc.cell? ⟨w.heap.size + 1 + 1, 0, none⟩ = some (.slice none 0 0) := by rw [Lib.cell_of_heap hO3.u.boxU]; rfl
              have u7 : wc.cell? ⟨w.heap.size + 1 + 1, 1, none⟩ = some (.slice none 0 0) := by rw [Lib.cell_of_heap hO3.u.boxU]; rfl
              have u8 := Lib.frozen_of_heap hO3.u.boxU 0
              have u9 := Lib.frozen_of_heap hO3.u.boxU 1
              have dA : bA ≠ w.heap.size + 1 + 1 := by have := hO3.hA; omega
              have dB : bB ≠ w.heap.size + 1 + 1 := by have := hO3.hB; omega
              go_wp2
              refine bodyPost_ret (v := .tuple #[.agg #[.slice (some ⟨bA, 0, none⟩) n capA, .slice (some ⟨bB, 0, none⟩) n capB], .bool true]) (by simp [results, Try.results30, go_sem, u6, u7]) rfl ⟨⟨_, _, _, _, rfl, fun i hi => ?_, fun i hi => ?_⟩, ?_⟩
              · rw [← HP.out.1 i hi]
                exact ((hO3.oA.other _ _ _ dA).other _ _ _ dA).row i hi
              · rw [← HP.out.2 i hi]
                exact ((hO3.oB.other _ _ _ dB).other _ _ _ dB).row i hi
              · exact (hO3.u.below.setCell (p := ⟨w.heap.size + 1 + 1, 0, none⟩) (by show w.heap.size ≤ w.heap.size + 1 + 1; omega) _).setCell (p := ⟨w.heap.size + 1 + 1, 1, none⟩) (by show w.heap.size ≤ w.heap.size + 1 + 1; omega) _

end Go.Proofs.Qxb6600053a


/-
  The plain side: the order of float64s that are no NaN, by integers.
-/
import Derived.Laws.Cover2
namespace Go.Proofs.Qxb6600053a.Ord

/-- How two float64s, given by their bits, stand to each other. -/
def O (x y : Nat) : Option Ordering := FloatKind.f64.format.order x y

theorem signed_eq (s : Bool) (m k : Nat) : Ieee.signed s m k = (if s then -((m : Int) * 2 ^ k) else (m : Int) * 2 ^ k) := by
  unfold Ieee.signed
  rw [Nat.shiftLeft_eq]
  cases s <;> simp
theorem signed_scale (s : Bool) (m k j : Nat) : Ieee.signed s m (k + j) = Ieee.signed s m k * 2 ^ j := by
  rw [signed_eq, signed_eq, Int.pow_add, ← Int.mul_assoc]
  cases s
  · simp
  · simp [Int.neg_mul]

theorem pow_pos (j : Nat) : (0 : Int) < 2 ^ j := Int.pow_pos (by decide)

theorem compare_scale (a b : Int) (j : Nat) : compare (a * 2 ^ j) (b * 2 ^ j) = compare a b := by
  have h := pow_pos j
  rcases Int.lt_trichotomy a b with h1 | h1 | h1
  · rw [Int.compare_eq_lt.2 h1, Int.compare_eq_lt.2 (Int.mul_lt_mul_of_pos_right h1 h)]
  · subst h1; simp
  · rw [Int.compare_eq_gt.2 h1, Int.compare_eq_gt.2 (Int.mul_lt_mul_of_pos_right h1 h)]

/-- A place at or below that of a number. -/
def Under (b : Int) : Ieee.Datum → Prop
  | .number _ _ i => b ≤ i
  | _ => True
def place : Ieee.Datum → Int
  | .number _ _ i => i
  | _ => 0
/-- The whole number of a datum, at place b. -/
def val (b : Int) : Ieee.Datum → Int
  | .number s m i => Ieee.signed s m (i - b).toNat
  | _ => 0
/-- The key of a datum: infinities lie beyond M. -/
def key (b M : Int) : Ieee.Datum → Int
  | .number s m i => Ieee.signed s m (i - b).toNat
  | .infinity s => if s then -M else M
  | .nan .. => 0

theorem order_key {b M : Int} {d1 d2 : Ieee.Datum} (h1 : d1.isNaN = false) (h2 : d2.isNaN = false) (u1 : Under b d1) (u2 : Under b d2) (m1 : (val b d1).natAbs < M) (m2 : (val b d2).natAbs < M) :
    d1.order d2 = some (compare (key b M d1) (key b M d2)) := by
  have hM : 0 < M := by omega
  cases d1 with
  | nan s t => cases h1
  | infinity s =>
    cases d2 with
    | nan s t => cases h2
    | infinity t =>
      cases s <;> cases t <;> simp only [Ieee.Datum.order, key, if_true, if_false, Bool.false_eq_true, Option.some.injEq]
      · simp
      · rw [Int.compare_eq_gt.2 (by omega)]; rfl
      · rw [Int.compare_eq_lt.2 (by omega)]; rfl
      · simp
    | number t n j =>
      simp only [val] at m2
      cases s <;> simp only [Ieee.Datum.order, key, if_true, if_false, Bool.false_eq_true, Option.some.injEq]
      · rw [Int.compare_eq_gt.2 (by omega)]
      · rw [Int.compare_eq_lt.2 (by omega)]
  | number s m i =>
    cases d2 with
    | nan s t => cases h2
    | infinity t =>
      simp only [val] at m1
      cases t <;> simp only [Ieee.Datum.order, key, if_true, if_false, Bool.false_eq_true, Option.some.injEq]
      · rw [Int.compare_eq_lt.2 (by omega)]
      · rw [Int.compare_eq_gt.2 (by omega)]
    | number t n j =>
      simp only [Ieee.Datum.order, key, Option.some.injEq]
      simp only [Under] at u1 u2
      have e1 : (i - b).toNat = (i - min i j).toNat + (min i j - b).toNat := by omega
      have e2 : (j - b).toNat = (j - min i j).toNat + (min i j - b).toNat := by omega
      rw [e1, e2, signed_scale, signed_scale, compare_scale]

theorem notNaN {x : Nat} (h : O x x = some .eq) : (FloatKind.f64.format.read x).isNaN = false := by
  unfold O Ieee.Format.order at h
  cases e : FloatKind.f64.format.read x with
  | nan s t => rw [e] at h; cases h
  | infinity s => rfl
  | number s m i => rfl

theorem under_min (b : Int) (d : Ieee.Datum) (h : b ≤ place d) : Under b d := by
  cases d with
  | number s m i => exact h
  | infinity s => trivial
  | nan s t => trivial

/-- THREE FLOATS THAT ARE NO NaN STAND TO EACH OTHER AS THREE INTEGERS DO. -/
theorem keys3 {x y z : Nat} (hx : O x x = some .eq) (hy : O y y = some .eq) (hz : O z z = some .eq) :
    ∃ a b c : Int, O x y = some (compare a b) ∧ O y x = some (compare b a) ∧ O x z = some (compare a c) ∧ O z x = some (compare c a) ∧ O y z = some (compare b c) ∧ O z y = some (compare c b) := by
  have nx := notNaN hx
  have ny := notNaN hy
  have nz := notNaN hz
  unfold O Ieee.Format.order
  generalize FloatKind.f64.format.read x = d1 at *
  generalize FloatKind.f64.format.read y = d2 at *
  generalize FloatKind.f64.format.read z = d3 at *
  let b : Int := min (place d1) (min (place d2) (place d3))
  have u1 : Under b d1 := under_min _ _ (by omega)
  have u2 : Under b d2 := under_min _ _ (by omega)
  have u3 : Under b d3 := under_min _ _ (by omega)
  let M : Int := (val b d1).natAbs + (val b d2).natAbs + (val b d3).natAbs + 1
  have m1 : ((val b d1).natAbs : Int) < M := by omega
  have m2 : ((val b d2).natAbs : Int) < M := by omega
  have m3 : ((val b d3).natAbs : Int) < M := by omega
  exact ⟨key b M d1, key b M d2, key b M d3, order_key nx ny u1 u2 m1 m2, order_key ny nx u2 u1 m2 m1, order_key nx nz u1 u3 m1 m3, order_key nz nx u3 u1 m3 m1, order_key ny nz u2 u3 m2 m3, order_key nz ny u3 u2 m3 m2⟩

end Go.Proofs.Qxb6600053a.Ord

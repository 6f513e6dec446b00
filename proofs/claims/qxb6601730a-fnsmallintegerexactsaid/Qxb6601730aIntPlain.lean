/-
  The plain side of FnSmallIntegerExact: digits as a function of the index.
-/
namespace Go.Proofs.Qxb6601730a.Plain

/-- The value of the first n digits of f. -/
def val (f : Nat → Int) : Nat → Int
  | 0 => 0
  | k + 1 => val f k * 10 + (f k - 48)

/-- Are the first n entries of f digits? -/
def digs (f : Nat → Int) (n : Nat) : Prop := ∀ i, i < n → 48 ≤ f i ∧ f i ≤ 57

def p10 : Nat → Int
  | 0 => 1
  | k + 1 => p10 k * 10

theorem digs_mono {f : Nat → Int} {n m : Nat} (h : digs f n) (hm : m ≤ n) : digs f m := fun i hi => h i (by omega)

theorem val_bd {f : Nat → Int} : ∀ {n : Nat}, digs f n → 0 ≤ val f n ∧ val f n < p10 n
  | 0, _ => by simp [val, p10]
  | k + 1, h => by
    have h1 := val_bd (digs_mono h (Nat.le_succ k))
    have h2 := h k (by omega)
    simp only [val, p10]
    omega

theorem p10_le (n : Nat) (h : n ≤ 18) : p10 n ≤ 1000000000000000000 := by
  have : n = 0 ∨ n = 1 ∨ n = 2 ∨ n = 3 ∨ n = 4 ∨ n = 5 ∨ n = 6 ∨ n = 7 ∨ n = 8 ∨ n = 9 ∨ n = 10 ∨ n = 11 ∨ n = 12 ∨ n = 13 ∨ n = 14 ∨ n = 15 ∨ n = 16 ∨ n = 17 ∨ n = 18 := by omega
  rcases this with h | h | h | h | h | h | h | h | h | h | h | h | h | h | h | h | h | h | h <;> subst h <;> simp [p10]

theorem val_le {f : Nat → Int} {n : Nat} (h : digs f n) (hn : n ≤ 18) : 0 ≤ val f n ∧ val f n < 1000000000000000000 := by
  have h1 := val_bd h
  have h2 := p10_le n hn
  omega

theorem p10_le17 (n : Nat) (h : n ≤ 17) : p10 n ≤ 100000000000000000 := by
  have : n = 0 ∨ n = 1 ∨ n = 2 ∨ n = 3 ∨ n = 4 ∨ n = 5 ∨ n = 6 ∨ n = 7 ∨ n = 8 ∨ n = 9 ∨ n = 10 ∨ n = 11 ∨ n = 12 ∨ n = 13 ∨ n = 14 ∨ n = 15 ∨ n = 16 ∨ n = 17 := by omega
  rcases this with h | h | h | h | h | h | h | h | h | h | h | h | h | h | h | h | h | h <;> subst h <;> simp [p10]

theorem val_le17 {f : Nat → Int} {n : Nat} (h : digs f n) (hn : n ≤ 17) : 0 ≤ val f n ∧ val f n < 100000000000000000 := by
  have h1 := val_bd h
  have h2 := p10_le17 n hn
  omega

theorem val_pos {f : Nat → Int} (h0 : f 0 ≠ 48) : ∀ {n : Nat}, digs f n → 1 ≤ n → 1 ≤ val f n
  | 0, _, h => absurd h (by omega)
  | 1, h, _ => by
    have := h 0 (by omega)
    simp only [val]
    omega
  | k + 2, h, _ => by
    have h1 := val_pos h0 (digs_mono h (Nat.le_succ (k + 1))) (by omega)
    have h2 := h (k + 1) (by omega)
    show 1 ≤ val f (k + 1) * 10 + (f (k + 1) - 48)
    omega

theorem val_mod {f : Nat → Int} {k : Nat} (h : digs f (k + 1)) : 48 + val f (k + 1) % 10 = f k := by
  have := h k (by omega)
  simp only [val]
  omega

theorem val_div {f : Nat → Int} {k : Nat} (h : digs f (k + 1)) : val f (k + 1) / 10 = val f k := by
  have := h k (by omega)
  simp only [val]
  omega

end Go.Proofs.Qxb6601730a.Plain

/-
  The plain side: hexadecimal digits and numbers of four of them; small facts on bits.
-/
import Derived.WalkKit
namespace Go.Proofs.Qxb6000096a.Hex

/-- The value of a hexadecimal digit, of either case. -/
def hv (c : Int) : Option Nat :=
  if 48 ≤ c ∧ c ≤ 57 then some (c - 48).toNat else if 97 ≤ c ∧ c ≤ 102 then some (c - 87).toNat else if 65 ≤ c ∧ c ≤ 70 then some (c - 55).toNat else none

theorem hv_dec {c : Int} (h : 48 ≤ c ∧ c ≤ 57) : hv c = some (c - 48).toNat := by unfold hv; rw [if_pos h]
theorem hv_low {c : Int} (h : 97 ≤ c ∧ c ≤ 102) : hv c = some (c - 87).toNat := by unfold hv; rw [if_neg (by omega), if_pos h]
theorem hv_up {c : Int} (h : 65 ≤ c ∧ c ≤ 70) : hv c = some (c - 55).toNat := by unfold hv; rw [if_neg (by omega), if_neg (by omega), if_pos h]
theorem hv_none {c : Int} (h1 : ¬ (48 ≤ c ∧ c ≤ 57)) (h2 : ¬ (97 ≤ c ∧ c ≤ 102)) (h3 : ¬ (65 ≤ c ∧ c ≤ 70)) : hv c = none := by unfold hv; rw [if_neg h1, if_neg h2, if_neg h3]
theorem hv_lt {c : Int} {d : Nat} (h : hv c = some d) : d < 16 := by
  unfold hv at h
  split at h
  · simp at h; omega
  · split at h
    · simp at h; omega
    · split at h
      · simp at h; omega
      · cases h

/-- The number that the first k digits make. -/
def hx (f : Nat → Int) : Nat → Option Nat
  | 0 => some 0
  | k + 1 => (hx f k).bind fun r => (hv (f k)).map fun d => r * 16 + d

def pw : Nat → Nat
  | 0 => 1
  | k + 1 => 16 * pw k

theorem hx_lt {f : Nat → Int} : ∀ {k r : Nat}, hx f k = some r → r < pw k
  | 0, r, h => by simp [hx] at h; simp [pw, ← h]
  | k + 1, r, h => by
    rw [hx, Option.bind_eq_some_iff] at h
    obtain ⟨q, h1, h2⟩ := h
    rw [Option.map_eq_some_iff] at h2
    obtain ⟨d, h3, h4⟩ := h2
    have := hx_lt h1
    have := hv_lt h3
    simp only [pw]
    omega
theorem hx_succ {f : Nat → Int} {k r d : Nat} (h : hx f k = some r) (hd : hv (f k) = some d) : hx f (k + 1) = some (r * 16 + d) := by simp [hx, h, hd]
theorem hx_stop {f : Nat → Int} {k : Nat} (hd : hv (f k) = none) : hx f (k + 1) = none := by
  rw [hx, hd]
  cases hx f k <;> rfl
theorem hx_none {f : Nat → Int} {k : Nat} (h : hx f k = none) : ∀ j, hx f (k + j) = none
  | 0 => h
  | j + 1 => by
    show hx f (k + j + 1) = none
    rw [hx, hx_none h j]
    rfl
theorem hx_four {f : Nat → Int} {k : Nat} (hk : k < 4) (hd : hv (f k) = none) : hx f 4 = none := by
  have := hx_none (hx_stop hd) (4 - (k + 1))
  rwa [show k + 1 + (4 - (k + 1)) = 4 by omega] at this
theorem pw_four {k : Nat} (h : k < 4) : pw k ≤ 4096 := by
  have : k = 0 ∨ k = 1 ∨ k = 2 ∨ k = 3 := by omega
  rcases this with h | h | h | h <;> subst h <;> simp [pw]

/-! ### Bits -/
theorem or16 (x : Nat) (c : Int) (hx : x < 4096) (h0 : 0 ≤ c) (h1 : c < 16) : bits .or .i32 ((x : Int) * 16) c = (x : Int) * 16 + c := by
  obtain ⟨d, rfl⟩ := Int.eq_ofNat_of_zero_le h0
  have e : (x : Int) * 16 = ((x * 16 : Nat) : Int) := by omega
  have ho : x * 16 ||| d = x * 16 + d := by
    have h := Nat.shiftLeft_add_eq_or_of_lt (b := d) (i := 4) (by omega) x
    rw [Nat.shiftLeft_eq] at h
    exact h.symm
  have ha : (BitVec.ofInt 32 ((x * 16 : Nat) : Int)).toNat = x * 16 := by
    rw [BitVec.ofInt_natCast, BitVec.toNat_ofNat]; exact Nat.mod_eq_of_lt (by omega)
  have hb : (BitVec.ofInt 32 (d : Int)).toNat = d := by
    rw [BitVec.ofInt_natCast, BitVec.toNat_ofNat]; exact Nat.mod_eq_of_lt (by omega)
  rw [e]
  show IntKind.i32.wrap ((BitVec.ofInt 32 ((x * 16 : Nat) : Int) ||| BitVec.ofInt 32 (d : Int)).toNat : Int) = _
  rw [BitVec.toNat_or, ha, hb, ho, IntKind.wrap_i32]
  omega
theorem and15_u16 (x : Nat) (hx : x < 65536) : bits .and .u16 (x : Int) 15 = ((x % 16 : Nat) : Int) := by
  have ha : (BitVec.ofInt 16 (x : Int)).toNat = x := by
    rw [BitVec.ofInt_natCast, BitVec.toNat_ofNat]; exact Nat.mod_eq_of_lt (by omega)
  have hb : (BitVec.ofInt 16 15).toNat = 15 := by decide
  have ho : x &&& 15 = x % 16 := Nat.and_two_pow_sub_one_eq_mod x 4
  show IntKind.u16.wrap ((BitVec.ofInt 16 (x : Int) &&& BitVec.ofInt 16 15).toNat : Int) = _
  rw [BitVec.toNat_and, ha, hb, ho, IntKind.wrap_u16]
  omega
theorem and15_u8 (x : Nat) (hx : x < 256) : bits .and .u8 (x : Int) 15 = ((x % 16 : Nat) : Int) := by
  have ha : (BitVec.ofInt 8 (x : Int)).toNat = x := by
    rw [BitVec.ofInt_natCast, BitVec.toNat_ofNat]; exact Nat.mod_eq_of_lt (by omega)
  have hb : (BitVec.ofInt 8 15).toNat = 15 := by decide
  have ho : x &&& 15 = x % 16 := Nat.and_two_pow_sub_one_eq_mod x 4
  show IntKind.u8.wrap ((BitVec.ofInt 8 (x : Int) &&& BitVec.ofInt 8 15).toNat : Int) = _
  rw [BitVec.toNat_and, ha, hb, ho, IntKind.wrap_u8]
  omega

/-! ### The two tables of digits -/
/-- The digit of d, upper case or lower. -/
def ch (up : Bool) (d : Nat) : Nat := if d < 10 then 48 + d else if up then 55 + d else 87 + d
theorem hv_ch (up : Bool) (d : Nat) (h : d < 16) : hv (ch up d) = some d := by
  unfold ch
  by_cases c : d < 10
  · rw [if_pos c, hv_dec (by omega)]
    congr 1
    omega
  · rw [if_neg c]
    cases up
    · rw [if_neg (by simp), hv_low (by omega)]
      congr 1
      omega
    · rw [if_pos rfl, hv_up (by omega)]
      congr 1
      omega
theorem low_at (k : Nat) (hk : k < (⟨#[48, 49, 50, 51, 52, 53, 54, 55, 56, 57, 97, 98, 99, 100, 101, 102]⟩ : ByteArray).size) : ((⟨#[48, 49, 50, 51, 52, 53, 54, 55, 56, 57, 97, 98, 99, 100, 101, 102]⟩ : ByteArray)[k]'hk).toNat = ch false k := by
  have h16 : k < 16 := hk
  have : k = 0 ∨ k = 1 ∨ k = 2 ∨ k = 3 ∨ k = 4 ∨ k = 5 ∨ k = 6 ∨ k = 7 ∨ k = 8 ∨ k = 9 ∨ k = 10 ∨ k = 11 ∨ k = 12 ∨ k = 13 ∨ k = 14 ∨ k = 15 := by omega
  rcases this with h | h | h | h | h | h | h | h | h | h | h | h | h | h | h | h <;> subst h <;> rfl
theorem up_at (k : Nat) (hk : k < (⟨#[48, 49, 50, 51, 52, 53, 54, 55, 56, 57, 65, 66, 67, 68, 69, 70]⟩ : ByteArray).size) : ((⟨#[48, 49, 50, 51, 52, 53, 54, 55, 56, 57, 65, 66, 67, 68, 69, 70]⟩ : ByteArray)[k]'hk).toNat = ch true k := by
  have h16 : k < 16 := hk
  have : k = 0 ∨ k = 1 ∨ k = 2 ∨ k = 3 ∨ k = 4 ∨ k = 5 ∨ k = 6 ∨ k = 7 ∨ k = 8 ∨ k = 9 ∨ k = 10 ∨ k = 11 ∨ k = 12 ∨ k = 13 ∨ k = 14 ∨ k = 15 := by omega
  rcases this with h | h | h | h | h | h | h | h | h | h | h | h | h | h | h | h <;> subst h <;> rfl

/-- The j-th of the four digits of v. -/
def nib (v : Nat) : Nat → Nat
  | 0 => v / 4096 % 16
  | 1 => v / 256 % 16
  | 2 => v / 16 % 16
  | _ => v % 16
theorem nib_lt (v j : Nat) : nib v j < 16 := by
  unfold nib
  split <;> omega
theorem hx_written {f : Nat → Int} {up : Bool} {v : Nat} (hv' : v < 65536) (h : ∀ j, j < 4 → f j = (ch up (nib v j) : Nat)) : hx f 4 = some v := by
  have s0 := hx_succ (f := f) (k := 0) rfl (by rw [h 0 (by omega)]; exact hv_ch up _ (nib_lt v 0))
  have s1 := hx_succ (k := 1) s0 (by rw [h 1 (by omega)]; exact hv_ch up _ (nib_lt v 1))
  have s2 := hx_succ (k := 2) s1 (by rw [h 2 (by omega)]; exact hv_ch up _ (nib_lt v 2))
  have s3 := hx_succ (k := 3) s2 (by rw [h 3 (by omega)]; exact hv_ch up _ (nib_lt v 3))
  rw [s3]
  congr 1
  simp only [nib]
  omega

end Go.Proofs.Qxb6000096a.Hex

/-
  PLAIN: the word of a nesting: which bits the first 64 flags make.
-/
import Derived.WalkKit
namespace Go.Proofs.Qxb6601649a
open Go.RowKit

/-- The word behind the first t flags. -/
def Wd (fs : List Bool) : Nat → Nat
  | 0 => 0
  | t + 1 => Wd fs t + (if t < 64 ∧ fs.getD t false = true then 2 ^ t else 0)

theorem Wd_lt (fs : List Bool) (t : Nat) (h : t ≤ 64) : Wd fs t < 2 ^ t := by
  induction t with
  | zero => simp [Wd]
  | succ t ih =>
    have := ih (by omega)
    unfold Wd
    rw [Nat.pow_succ]
    split <;> omega

theorem Wd_same (fs : List Bool) (t : Nat) (h : 64 ≤ t) : Wd fs (t + 1) = Wd fs t := by
  rw [Wd, if_neg (by omega), Nat.add_zero]

theorem Wd_64 (fs : List Bool) : ∀ t, 64 ≤ t → Wd fs t = Wd fs 64 := by
  intro t
  induction t with
  | zero => intro h; omega
  | succ t ih =>
    intro h
    by_cases h' : 64 ≤ t
    · rw [Wd_same fs t h', ih h']
    · obtain rfl : t = 63 := by omega
      rfl

theorem Wd_le (fs : List Bool) (t : Nat) : Wd fs t < 18446744073709551616 := by
  by_cases h : t ≤ 64
  · exact Nat.lt_of_lt_of_le (Wd_lt fs t h) (by simpa using Nat.pow_le_pow_right (show 0 < 2 by omega) h)
  · rw [Wd_64 fs t (by omega)]
    exact Wd_lt fs 64 (Nat.le_refl _)

/-- Bit d of the word is flag d. -/
theorem Wd_bit (fs : List Bool) (d : Nat) (hd : d < 64) : ∀ t, d < t → Wd fs t / 2 ^ d % 2 = if fs.getD d false = true then 1 else 0 := by
  intro t
  induction t with
  | zero => intro h; omega
  | succ t ih =>
    intro h
    by_cases hdt : d < t
    · rw [← ih hdt, Wd]
      split
      · have e : 2 ^ t = 2 ^ d * (2 * 2 ^ (t - d - 1)) := by
          rw [← Nat.mul_assoc, Nat.mul_comm (2 ^ d) 2, Nat.mul_assoc, ← Nat.pow_add, ← Nat.pow_succ']
          congr 1
          omega
        rw [e, Nat.add_mul_div_left _ _ (Nat.two_pow_pos d)]
        omega
      · rw [Nat.add_zero]
    · obtain rfl : t = d := by omega
      have hlt := Wd_lt fs t (by omega)
      rw [Wd]
      by_cases hf : fs.getD t false = true
      · rw [if_pos ⟨hd, hf⟩, if_pos hf]
        have e : (Wd fs t + 2 ^ t) / 2 ^ t = 1 := by
          rw [Nat.add_div_right _ (Nat.two_pow_pos t), Nat.div_eq_of_lt hlt]
        rw [e]
      · rw [if_neg (fun h => hf h.2), if_neg hf, Nat.add_zero, Nat.div_eq_of_lt hlt]

theorem pow_lt64 {t : Nat} (h : t < 64) : 2 ^ t < 18446744073709551616 := by
  have := Nat.pow_lt_pow_right (a := 2) (by omega) h
  simpa using this

theorem wrap_pow {t : Nat} (h : t < 64) : IntKind.u64.wrap (2 ^ t) = ((2 ^ t : Nat) : Int) := by
  have := pow_lt64 h
  rw [IntKind.wrap_u64]
  have e : (2 : Int) ^ t = ((2 ^ t : Nat) : Int) := by simp
  rw [e]
  exact Int.emod_eq_of_lt (Int.natCast_nonneg _) (by omega)

/-- A flag that is set. -/
theorem word_or (fs : List Bool) (t : Nat) (h : t < 64) (hf : fs.getD t false = true) : bits BinOp.or IntKind.u64 (Wd fs t : Int) (IntKind.u64.wrap (2 ^ t)) = (Wd fs (t + 1) : Int) := by
  have hlt := Wd_lt fs t (by omega)
  rw [wrap_pow h, u64_or_nat _ _ (Wd_le fs t) (pow_lt64 h)]
  congr 1
  have := Nat.two_pow_add_eq_or_of_lt hlt 1
  rw [Nat.mul_one] at this
  rw [Wd, if_pos ⟨h, hf⟩, Nat.or_comm, ← this, Nat.add_comm]

/-- A flag that is not. -/
theorem word_andNot (fs : List Bool) (t : Nat) (h : t < 64) (hf : ¬ fs.getD t false = true) : bits BinOp.andNot IntKind.u64 (Wd fs t : Int) (IntKind.u64.wrap (2 ^ t)) = (Wd fs (t + 1) : Int) := by
  have hlt := Wd_lt fs t (by omega)
  rw [wrap_pow h, u64_andNot_nat _ _ (Wd_le fs t) (pow_lt64 h)]
  congr 1
  rw [Wd, if_neg (fun h => hf h.2), Nat.add_zero]
  apply Nat.eq_of_testBit_eq
  intro i
  have e : 18446744073709551615 - 2 ^ t = 2 ^ 64 - (2 ^ t + 1) := by omega
  rw [Nat.testBit_and, e, Nat.testBit_two_pow_sub_succ (by simpa using pow_lt64 h)]
  by_cases hi : i < t
  · have h1 : (2 ^ t).testBit i = false := by rw [Nat.testBit_two_pow_of_ne (by omega)]
    simp [h1, show i < 64 by omega]
  · rw [Nat.testBit_lt_two_pow (Nat.lt_of_lt_of_le hlt (Nat.pow_le_pow_right (by omega) (by omega)))]
    simp

/-- Reading a level back. -/
theorem word_bit (fs : List Bool) (d t : Nat) (hd : d < 64) (ht : d < t) : (bits BinOp.and IntKind.u64 ((Wd fs t : Int) / 2 ^ d) 1 == 1) = fs.getD d false := by
  have e : ((Wd fs t : Int) / 2 ^ d) = ((Wd fs t / 2 ^ d : Nat) : Int) := by simp
  have hle : Wd fs t / 2 ^ d < 18446744073709551616 := Nat.lt_of_le_of_lt (Nat.div_le_self _ _) (Wd_le fs t)
  have e1 : (1 : Int) = ((1 : Nat) : Int) := rfl
  rw [e, e1, u64_and_nat _ _ hle (by omega), Nat.and_one_is_mod, Wd_bit fs d hd t ht]
  cases fs.getD d false <;> simp

end Go.Proofs.Qxb6601649a

/-
  THE WALK of numberAutomaton (11).
-/
import Derived.Test.Qxb6601649aDigits
namespace Go.Proofs.Qxb6601649a
open Go.RowKit

/-- The pair that is answered. -/
def Ans (R0 : Nat × Int) (w : World) (e : Ending) (w' : World) : Prop := e = .returned (.tuple #[.int .i64 (R0.1 : Int), .int .i64 R0.2]) ∧ w' = w

theorem ans_of {R0 : Nat × Int} {w : World} {k : Nat} {s : Int} (h : R0 = (k, s)) : Ans R0 w (.returned (.tuple #[.int .i64 (k : Int), .int .i64 s])) w := by
  subst h
  exact ⟨rfl, rfl⟩

def wt (s : Int) : Nat := if s = 0 ∨ s = 6 then 1 else 0

set_option maxHeartbeats 6000000 in
set_option maxRecDepth 100000 in
theorem automaton_any (a : Option Addr) (c : Nat) (zs : List Int) (w : World) (hr : RdB w a zs) (hn : zs.length ≤ 1048576) (i : Nat) (hi : i ≤ zs.length) (st : Int) (h0 : 0 ≤ st) (h8 : st ≤ 8) :
    Calls Try.prog 11 #[.slice a zs.length c, .int .i64 i, .int .i64 st] w (Ans (Rn zs i st) w) := by
  obtain ⟨b, off, h1, h2⟩ := hr
  obtain ⟨R0, hR0⟩ : ∃ R0, Rn zs i st = R0 := ⟨_, rfl⟩
  rw [hR0]
  have HR0 := hid hR0
  clear hR0
  go_enter Try.func11, Try.ntmps11
  go_wp2
  go_loopg [1, 2] (2 * (zs.length - i) + wt st) (fun g iv av wr => ∃ (k : Nat) (s : Int), g = 2 * (zs.length - k) + wt s ∧ k ≤ zs.length ∧ iv = .int .i64 k ∧ av = .int .i64 s ∧ 0 ≤ s ∧ s ≤ 8 ∧ Rn zs k s = R0 ∧ wr = w)
  case atStart => exact ⟨i, st, rfl, hi, rfl, rfl, h0, h8, HR0.out, rfl⟩
  case round =>
    obtain ⟨k, s, hg, hk, rfl, rfl, hs0, hs8, hR, hwr⟩ := hrel
    subst hwr
    have HG := hid hg
    have HR := hid hR
    clear hg hR HR0
    by_cases hlt : k < zs.length
    · obtain rfl := h1 (by omega)
      have hcell := h2 k hlt
      obtain ⟨z, hz⟩ : ∃ z, zs.getD k 0 = z := ⟨_, rfl⟩
      rw [hz] at hcell
      have HZ := hid hz
      clear hz h2
      have hlt' : (k : Int) < (zs.length : Int) := by omega
      rcases (show s = 0 ∨ s = 1 ∨ s = 2 ∨ s = 3 ∨ s = 4 ∨ s = 5 ∨ s = 6 ∨ s = 7 ∨ s = 8 by omega) with rfl | rfl | rfl | rfl | rfl | rfl | rfl | rfl | rfl
      · rcases (show z = 45 ∨ z ≠ 45 by omega) with rfl | hc
        · go_wp2
          go_roundg (2 * (zs.length - (k + 1)) + wt 1)
          case measure => have := HG.out; simp [wt] at this ⊢; omega
          case rel => exact ⟨k + 1, 1, rfl, by omega, by go_num, rfl, by omega, by omega, (Rn_step hlt (by rw [HZ.out]; exact n0m rfl)).symm.trans HR.out, rfl⟩
        · have q45 : (z == 45) = false := by rw [beq_eq_false_iff_ne]; omega
          have HC := hid hc
          clear hc
          go_wp2
          go_roundg (2 * (zs.length - k) + wt 1)
          case measure => have := HG.out; simp [wt] at this ⊢; omega
          case rel => exact ⟨k, 1, rfl, by omega, by go_num, rfl, by omega, by omega, (Rn_eps (s := 0) (s' := 1) hlt (by rw [HZ.out]; exact n0x HC.out) rfl).symm.trans HR.out, rfl⟩
      · rcases (show z = 48 ∨ (49 ≤ z ∧ z ≤ 57) ∨ (z < 48) ∨ (57 < z) by omega) with rfl | hc | hc | hc
        · go_wp2
          go_roundg (2 * (zs.length - (k + 1)) + wt 2)
          case measure => have := HG.out; simp [wt] at this ⊢; omega
          case rel => exact ⟨k + 1, 2, rfl, by omega, by go_num, rfl, by omega, by omega, (Rn_step hlt (by rw [HZ.out]; exact n1z rfl)).symm.trans HR.out, rfl⟩
        · have q48 : (z == 48) = false := by rw [beq_eq_false_iff_ne]; omega
          have d1 : 48 ≤ z := by omega
          have d2 : z ≤ 57 := by omega
          have d3 : 49 ≤ z := by omega
          have HC := hid hc
          clear hc
          go_wp2
          go_roundg (2 * (zs.length - (k + 1)) + wt 3)
          case measure => have := HG.out; simp [wt] at this ⊢; omega
          case rel => exact ⟨k + 1, 3, rfl, by omega, by go_num, rfl, by omega, by omega, (Rn_step hlt (by rw [HZ.out]; exact n1d HC.out.1 HC.out.2)).symm.trans HR.out, rfl⟩
        · have q48 : (z == 48) = false := by rw [beq_eq_false_iff_ne]; omega
          have d1 : decide (48 ≤ z) = false := by rw [decide_eq_false_iff_not]; omega
          have d3 : decide (49 ≤ z) = false := by rw [decide_eq_false_iff_not]; omega
          have HC := hid hc
          clear hc
          go_wp2
          go_ret2
          exact ans_of (HR.out.symm.trans (Rn_halt hlt (by rw [HZ.out]; exact n1x (by have := HC.out; omega) (by have := HC.out; omega))))
        · have q48 : (z == 48) = false := by rw [beq_eq_false_iff_ne]; omega
          have d1 : decide (z ≤ 57) = false := by rw [decide_eq_false_iff_not]; omega
          have d2 : 48 ≤ z := by omega
          have d3 : 49 ≤ z := by omega
          have HC := hid hc
          clear hc
          go_wp2
          go_ret2
          exact ans_of (HR.out.symm.trans (Rn_halt hlt (by rw [HZ.out]; exact n1x (by have := HC.out; omega) (by have := HC.out; omega))))
      · rcases (show z = 46 ∨ z = 101 ∨ z = 69 ∨ z ≠ 46 ∧ z ≠ 101 ∧ z ≠ 69 by omega) with rfl | rfl | rfl | hc
        · go_wp2
          go_roundg (2 * (zs.length - (k + 1)) + wt 4)
          case measure => have := HG.out; simp [wt] at this ⊢; omega
          case rel => exact ⟨k + 1, 4, rfl, by omega, by go_num, rfl, by omega, by omega, (Rn_step hlt (by rw [HZ.out]; exact n2p rfl)).symm.trans HR.out, rfl⟩
        · go_wp2
          go_roundg (2 * (zs.length - (k + 1)) + wt 6)
          case measure => have := HG.out; simp [wt] at this ⊢; omega
          case rel => exact ⟨k + 1, 6, rfl, by omega, by go_num, rfl, by omega, by omega, (Rn_step hlt (by rw [HZ.out]; exact n2e (.inl rfl))).symm.trans HR.out, rfl⟩
        · go_wp2
          go_roundg (2 * (zs.length - (k + 1)) + wt 6)
          case measure => have := HG.out; simp [wt] at this ⊢; omega
          case rel => exact ⟨k + 1, 6, rfl, by omega, by go_num, rfl, by omega, by omega, (Rn_step hlt (by rw [HZ.out]; exact n2e (.inr rfl))).symm.trans HR.out, rfl⟩
        · have q46 : (z == 46) = false := by rw [beq_eq_false_iff_ne]; omega
          have q101 : (z == 101) = false := by rw [beq_eq_false_iff_ne]; omega
          have q69 : (z == 69) = false := by rw [beq_eq_false_iff_ne]; omega
          have HC := hid hc
          clear hc
          go_wp2
          go_ret2
          exact ans_of (HR.out.symm.trans (Rn_halt hlt (by rw [HZ.out]; exact n2x (by have := HC.out; omega) (by have := HC.out; omega))))
      · rcases (show z = 46 ∨ z = 101 ∨ z = 69 ∨ (48 ≤ z ∧ z ≤ 57) ∨ (z < 48 ∧ z ≠ 46) ∨ (57 < z ∧ z ≠ 101 ∧ z ≠ 69) by omega) with rfl | rfl | rfl | hc | hc | hc
        · go_wp2
          go_roundg (2 * (zs.length - (k + 1)) + wt 4)
          case measure => have := HG.out; simp [wt] at this ⊢; omega
          case rel => exact ⟨k + 1, 4, rfl, by omega, by go_num, rfl, by omega, by omega, (Rn_step hlt (by rw [HZ.out]; exact n3p rfl)).symm.trans HR.out, rfl⟩
        · go_wp2
          go_roundg (2 * (zs.length - (k + 1)) + wt 6)
          case measure => have := HG.out; simp [wt] at this ⊢; omega
          case rel => exact ⟨k + 1, 6, rfl, by omega, by go_num, rfl, by omega, by omega, (Rn_step hlt (by rw [HZ.out]; exact n3e (.inl rfl))).symm.trans HR.out, rfl⟩
        · go_wp2
          go_roundg (2 * (zs.length - (k + 1)) + wt 6)
          case measure => have := HG.out; simp [wt] at this ⊢; omega
          case rel => exact ⟨k + 1, 6, rfl, by omega, by go_num, rfl, by omega, by omega, (Rn_step hlt (by rw [HZ.out]; exact n3e (.inr rfl))).symm.trans HR.out, rfl⟩
        · have q46 : (z == 46) = false := by rw [beq_eq_false_iff_ne]; omega
          have q101 : (z == 101) = false := by rw [beq_eq_false_iff_ne]; omega
          have q69 : (z == 69) = false := by rw [beq_eq_false_iff_ne]; omega
          have d1 : 48 ≤ z := by omega
          have d2 : z ≤ 57 := by omega
          have HC := hid hc
          clear hc
          go_wp2
          go_roundg (2 * (zs.length - (k + 1)) + wt 3)
          case measure => have := HG.out; simp [wt] at this ⊢; omega
          case rel => exact ⟨k + 1, 3, rfl, by omega, by go_num, rfl, by omega, by omega, (Rn_step hlt (by rw [HZ.out]; exact n3d HC.out.1 HC.out.2)).symm.trans HR.out, rfl⟩
        · have q46 : (z == 46) = false := by rw [beq_eq_false_iff_ne]; omega
          have q101 : (z == 101) = false := by rw [beq_eq_false_iff_ne]; omega
          have q69 : (z == 69) = false := by rw [beq_eq_false_iff_ne]; omega
          have d1 : decide (48 ≤ z) = false := by rw [decide_eq_false_iff_not]; omega
          have d3 : decide (49 ≤ z) = false := by rw [decide_eq_false_iff_not]; omega
          have HC := hid hc
          clear hc
          go_wp2
          go_ret2
          exact ans_of (HR.out.symm.trans (Rn_halt hlt (by rw [HZ.out]; exact n3x (by have := HC.out; omega) (by have := HC.out; omega) (by have := HC.out; omega))))
        · have q46 : (z == 46) = false := by rw [beq_eq_false_iff_ne]; omega
          have q101 : (z == 101) = false := by rw [beq_eq_false_iff_ne]; omega
          have q69 : (z == 69) = false := by rw [beq_eq_false_iff_ne]; omega
          have d1 : decide (z ≤ 57) = false := by rw [decide_eq_false_iff_not]; omega
          have d2 : 48 ≤ z := by omega
          have d3 : 49 ≤ z := by omega
          have HC := hid hc
          clear hc
          go_wp2
          go_ret2
          exact ans_of (HR.out.symm.trans (Rn_halt hlt (by rw [HZ.out]; exact n3x (by have := HC.out; omega) (by have := HC.out; omega) (by have := HC.out; omega))))
      · rcases (show (48 ≤ z ∧ z ≤ 57) ∨ (z < 48) ∨ (57 < z) by omega) with hc | hc | hc
        · have d1 : 48 ≤ z := by omega
          have d2 : z ≤ 57 := by omega
          have HC := hid hc
          clear hc
          go_wp2
          go_roundg (2 * (zs.length - (k + 1)) + wt 5)
          case measure => have := HG.out; simp [wt] at this ⊢; omega
          case rel => exact ⟨k + 1, 5, rfl, by omega, by go_num, rfl, by omega, by omega, (Rn_step hlt (by rw [HZ.out]; exact n4d HC.out.1 HC.out.2)).symm.trans HR.out, rfl⟩
        · have d1 : decide (48 ≤ z) = false := by rw [decide_eq_false_iff_not]; omega
          have d3 : decide (49 ≤ z) = false := by rw [decide_eq_false_iff_not]; omega
          have HC := hid hc
          clear hc
          go_wp2
          go_ret2
          exact ans_of (HR.out.symm.trans (Rn_halt hlt (by rw [HZ.out]; exact n4x (by have := HC.out; omega))))
        · have d1 : decide (z ≤ 57) = false := by rw [decide_eq_false_iff_not]; omega
          have d2 : 48 ≤ z := by omega
          have d3 : 49 ≤ z := by omega
          have HC := hid hc
          clear hc
          go_wp2
          go_ret2
          exact ans_of (HR.out.symm.trans (Rn_halt hlt (by rw [HZ.out]; exact n4x (by have := HC.out; omega))))
      · rcases (show z = 101 ∨ z = 69 ∨ (48 ≤ z ∧ z ≤ 57) ∨ (z < 48) ∨ (57 < z ∧ z ≠ 101 ∧ z ≠ 69) by omega) with rfl | rfl | hc | hc | hc
        · go_wp2
          go_roundg (2 * (zs.length - (k + 1)) + wt 6)
          case measure => have := HG.out; simp [wt] at this ⊢; omega
          case rel => exact ⟨k + 1, 6, rfl, by omega, by go_num, rfl, by omega, by omega, (Rn_step hlt (by rw [HZ.out]; exact n5e (.inl rfl))).symm.trans HR.out, rfl⟩
        · go_wp2
          go_roundg (2 * (zs.length - (k + 1)) + wt 6)
          case measure => have := HG.out; simp [wt] at this ⊢; omega
          case rel => exact ⟨k + 1, 6, rfl, by omega, by go_num, rfl, by omega, by omega, (Rn_step hlt (by rw [HZ.out]; exact n5e (.inr rfl))).symm.trans HR.out, rfl⟩
        · have q101 : (z == 101) = false := by rw [beq_eq_false_iff_ne]; omega
          have q69 : (z == 69) = false := by rw [beq_eq_false_iff_ne]; omega
          have d1 : 48 ≤ z := by omega
          have d2 : z ≤ 57 := by omega
          have HC := hid hc
          clear hc
          go_wp2
          go_roundg (2 * (zs.length - (k + 1)) + wt 5)
          case measure => have := HG.out; simp [wt] at this ⊢; omega
          case rel => exact ⟨k + 1, 5, rfl, by omega, by go_num, rfl, by omega, by omega, (Rn_step hlt (by rw [HZ.out]; exact n5d HC.out.1 HC.out.2)).symm.trans HR.out, rfl⟩
        · have q101 : (z == 101) = false := by rw [beq_eq_false_iff_ne]; omega
          have q69 : (z == 69) = false := by rw [beq_eq_false_iff_ne]; omega
          have d1 : decide (48 ≤ z) = false := by rw [decide_eq_false_iff_not]; omega
          have d3 : decide (49 ≤ z) = false := by rw [decide_eq_false_iff_not]; omega
          have HC := hid hc
          clear hc
          go_wp2
          go_ret2
          exact ans_of (HR.out.symm.trans (Rn_halt hlt (by rw [HZ.out]; exact n5x (by have := HC.out; omega) (by have := HC.out; omega))))
        · have q101 : (z == 101) = false := by rw [beq_eq_false_iff_ne]; omega
          have q69 : (z == 69) = false := by rw [beq_eq_false_iff_ne]; omega
          have d1 : decide (z ≤ 57) = false := by rw [decide_eq_false_iff_not]; omega
          have d2 : 48 ≤ z := by omega
          have d3 : 49 ≤ z := by omega
          have HC := hid hc
          clear hc
          go_wp2
          go_ret2
          exact ans_of (HR.out.symm.trans (Rn_halt hlt (by rw [HZ.out]; exact n5x (by have := HC.out; omega) (by have := HC.out; omega))))
      · rcases (show z = 43 ∨ z = 45 ∨ z ≠ 43 ∧ z ≠ 45 by omega) with rfl | rfl | hc
        · go_wp2
          go_roundg (2 * (zs.length - (k + 1)) + wt 7)
          case measure => have := HG.out; simp [wt] at this ⊢; omega
          case rel => exact ⟨k + 1, 7, rfl, by omega, by go_num, rfl, by omega, by omega, (Rn_step hlt (by rw [HZ.out]; exact n6s (.inl rfl))).symm.trans HR.out, rfl⟩
        · go_wp2
          go_roundg (2 * (zs.length - (k + 1)) + wt 7)
          case measure => have := HG.out; simp [wt] at this ⊢; omega
          case rel => exact ⟨k + 1, 7, rfl, by omega, by go_num, rfl, by omega, by omega, (Rn_step hlt (by rw [HZ.out]; exact n6s (.inr rfl))).symm.trans HR.out, rfl⟩
        · have q43 : (z == 43) = false := by rw [beq_eq_false_iff_ne]; omega
          have q45 : (z == 45) = false := by rw [beq_eq_false_iff_ne]; omega
          have HC := hid hc
          clear hc
          go_wp2
          go_roundg (2 * (zs.length - k) + wt 7)
          case measure => have := HG.out; simp [wt] at this ⊢; omega
          case rel => exact ⟨k, 7, rfl, by omega, by go_num, rfl, by omega, by omega, (Rn_eps (s := 6) (s' := 7) hlt (by rw [HZ.out]; exact n6x (by have := HC.out; omega)) rfl).symm.trans HR.out, rfl⟩
      · rcases (show (48 ≤ z ∧ z ≤ 57) ∨ (z < 48) ∨ (57 < z) by omega) with hc | hc | hc
        · have d1 : 48 ≤ z := by omega
          have d2 : z ≤ 57 := by omega
          have HC := hid hc
          clear hc
          go_wp2
          go_roundg (2 * (zs.length - (k + 1)) + wt 8)
          case measure => have := HG.out; simp [wt] at this ⊢; omega
          case rel => exact ⟨k + 1, 8, rfl, by omega, by go_num, rfl, by omega, by omega, (Rn_step hlt (by rw [HZ.out]; exact n7d HC.out.1 HC.out.2)).symm.trans HR.out, rfl⟩
        · have d1 : decide (48 ≤ z) = false := by rw [decide_eq_false_iff_not]; omega
          have d3 : decide (49 ≤ z) = false := by rw [decide_eq_false_iff_not]; omega
          have HC := hid hc
          clear hc
          go_wp2
          go_ret2
          exact ans_of (HR.out.symm.trans (Rn_halt hlt (by rw [HZ.out]; exact n7x (by have := HC.out; omega))))
        · have d1 : decide (z ≤ 57) = false := by rw [decide_eq_false_iff_not]; omega
          have d2 : 48 ≤ z := by omega
          have d3 : 49 ≤ z := by omega
          have HC := hid hc
          clear hc
          go_wp2
          go_ret2
          exact ans_of (HR.out.symm.trans (Rn_halt hlt (by rw [HZ.out]; exact n7x (by have := HC.out; omega))))
      · rcases (show (48 ≤ z ∧ z ≤ 57) ∨ (z < 48) ∨ (57 < z) by omega) with hc | hc | hc
        · have d1 : 48 ≤ z := by omega
          have d2 : z ≤ 57 := by omega
          have HC := hid hc
          clear hc
          go_wp2
          go_roundg (2 * (zs.length - (k + 1)) + wt 8)
          case measure => have := HG.out; simp [wt] at this ⊢; omega
          case rel => exact ⟨k + 1, 8, rfl, by omega, by go_num, rfl, by omega, by omega, (Rn_step hlt (by rw [HZ.out]; exact n8d HC.out.1 HC.out.2)).symm.trans HR.out, rfl⟩
        · have d1 : decide (48 ≤ z) = false := by rw [decide_eq_false_iff_not]; omega
          have d3 : decide (49 ≤ z) = false := by rw [decide_eq_false_iff_not]; omega
          have HC := hid hc
          clear hc
          go_wp2
          go_ret2
          exact ans_of (HR.out.symm.trans (Rn_halt hlt (by rw [HZ.out]; exact n8x (by have := HC.out; omega))))
        · have d1 : decide (z ≤ 57) = false := by rw [decide_eq_false_iff_not]; omega
          have d2 : 48 ≤ z := by omega
          have d3 : 49 ≤ z := by omega
          have HC := hid hc
          clear hc
          go_wp2
          go_ret2
          exact ans_of (HR.out.symm.trans (Rn_halt hlt (by rw [HZ.out]; exact n8x (by have := HC.out; omega))))
    · have hlt' : ¬ (k : Int) < (zs.length : Int) := by omega
      clear h2
      go_wp2
      go_ret2
      exact ans_of (HR.out.symm.trans (Rn_end zs k s (by omega)))

end Go.Proofs.Qxb6601649a

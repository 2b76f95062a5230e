/-
  THE WALK of numberEnd (22), cut at each of its stages; ZZNumberEnd (10).
-/
import Derived.Test.Qxb6601649aAutomaton
import Derived.Deep.Cut
namespace Go.Proofs.Qxb6601649a
open Go.RowKit

/-- Between two stages: where the reading stands, in a state from lo on, and that what it will come to is R0. -/
def At (zs : List Int) (R0 : Nat × Int) (lo : Int) (iv av : Value) : Prop :=
  ∃ (k : Nat) (s : Int), iv = .int .i64 k ∧ av = .int .i64 s ∧ k ≤ zs.length ∧ lo ≤ s ∧ s ≤ 8 ∧ Rn zs k s = R0 ∧ True

theorem At.mk {zs : List Int} {R0 : Nat × Int} {lo : Int} {k : Nat} {s : Int} (hk : k ≤ zs.length) (h1 : lo ≤ s) (h2 : s ≤ 8) (hR : Rn zs k s = R0) (_h3 : lo ≠ 3) : At zs R0 lo (.int .i64 k) (.int .i64 s) :=
  ⟨k, s, rfl, rfl, hk, h1, h2, hR, trivial⟩

/-- .. behind the integer's digits. -/
def At3 (zs : List Int) (R0 : Nat × Int) (iv av : Value) : Prop :=
  ∃ (k : Nat) (s : Int), iv = .int .i64 k ∧ av = .int .i64 s ∧ k ≤ zs.length ∧ 2 ≤ s ∧ s ≤ 8 ∧ Rn zs k s = R0 ∧ (s = 3 → k < zs.length → ¬ (48 ≤ zs.getD k 0 ∧ zs.getD k 0 ≤ 57))

theorem eight_end {zs : List Int} {j : Nat} (hj : j ≤ zs.length) (hnd : j < zs.length → ¬ (48 ≤ zs.getD j 0 ∧ zs.getD j 0 ≤ 57)) : Rn zs j 8 = (j, 8) := by
  by_cases h : j < zs.length
  · exact Rn_halt h (n8x (hnd h))
  · exact Rn_end zs j 8 (by omega)

theorem four_five {zs : List Int} {k : Nat} (h : k < zs.length) (h1 : 48 ≤ zs.getD k 0) (h2 : zs.getD k 0 ≤ 57) : Rn zs k 4 = Rn zs k 5 :=
  (Rn_step h (n4d h1 h2)).trans (Rn_step h (n5d h1 h2)).symm
theorem seven_eight {zs : List Int} {k : Nat} (h : k < zs.length) (h1 : 48 ≤ zs.getD k 0) (h2 : zs.getD k 0 ≤ 57) : Rn zs k 7 = Rn zs k 8 :=
  (Rn_step h (n7d h1 h2)).trans (Rn_step h (n8d h1 h2)).symm

set_option maxHeartbeats 6000000 in
set_option maxRecDepth 100000 in
theorem numberEnd_any (a : Option Addr) (c : Nat) (zs : List Int) (w : World) (hr : RdB w a zs) (hn : zs.length ≤ 1048576) (i : Nat) (hi : i ≤ zs.length) (st : Int) (h0 : 0 ≤ st) (h8 : st ≤ 8) :
    Calls Try.prog 22 #[.slice a zs.length c, .int .i64 i, .int .i64 st] w (Ans (Rn zs i st) w) := by
  have hr' := hid hr
  obtain ⟨b, off, h1, h2⟩ := hr
  obtain ⟨R0, hR0⟩ : ∃ R0, Rn zs i st = R0 := ⟨_, rfl⟩
  rw [hR0]
  have HR0 := hid hR0
  clear hR0
  have H2 := hid h2
  clear h2
  go_enter Try.func22, Try.ntmps22
  go_upto_if 9 with fail
  go_cut [1, 2] from 8 (fun iv av wx => At zs R0 1 iv av ∧ wx = w)
  case first =>
    as_aux_lemma =>
    by_cases hs : st = 0
    · subst hs
      by_cases hk : i = zs.length
      · have q1 : ((i : Int) == (zs.length : Int)) = true := by rw [beq_iff_eq]; omega
        have HK := hid hk
        clear hk
        go_wp2
        go_ret2
        exact ans_of (HR0.out.symm.trans (Rn_end zs i 0 (by have := HK.out; omega)))
      · have q1 : ((i : Int) == (zs.length : Int)) = false := by rw [beq_eq_false_iff_ne]; omega
        have hlt : i < zs.length := by omega
        obtain rfl := h1 (by omega)
        have hcell := H2.out i hlt
        obtain ⟨z, hz⟩ : ∃ z, zs.getD i 0 = z := ⟨_, rfl⟩
        rw [hz] at hcell
        have HZ := hid hz
        have hlt' : (i : Int) < (zs.length : Int) := by omega
        clear hz hk
        by_cases hc : z = 45
        · subst hc
          go_wp2
          go_meet
          case rel => exact ⟨At.mk (k := i + 1) (by omega) (by omega) (by omega) ((Rn_step hlt (by rw [HZ.out]; exact n0m rfl)).symm.trans HR0.out) (by omega), rfl⟩
        · have q2 : (z == 45) = false := by rw [beq_eq_false_iff_ne]; omega
          have HC := hid hc
          clear hc
          go_wp2
          go_meet
          case rel => exact ⟨At.mk (by omega) (by omega) (by omega) ((Rn_eps (s := 0) (s' := 1) hlt (by rw [HZ.out]; exact n0x HC.out) rfl).symm.trans HR0.out) (by omega), rfl⟩
    · have q1 : (st == 0) = false := by rw [beq_eq_false_iff_ne]; omega
      have HS := hid hs
      clear hs
      go_wp2
      go_meet
      case rel => exact ⟨At.mk hi (by have := HS.out; omega) h8 HR0.out (by omega), rfl⟩
  case rest =>
    clear HR0 h0 h8 hi
    obtain ⟨⟨k, s, rfl, rfl, hk, hlo, hs8, hR, hx⟩, hw⟩ := hcut
    rw [hw]
    clear hw wc
    have HR := hid hR
    have HX := hid hx
    clear hR hx
    go_upto_if 24 with fail
    go_cut [1, 2] from 8 (fun iv av wx => At zs R0 2 iv av ∧ wx = w)
    case first =>
      as_aux_lemma =>
        by_cases hs : s = 1
        · subst hs
          by_cases hke : k = zs.length
          · have q1 : ((k : Int) == (zs.length : Int)) = true := by rw [beq_iff_eq]; omega
            have HK := hid hke
            clear hke
            go_wp2
            go_ret2
            exact ans_of (HR.out.symm.trans (Rn_end zs k 1 (by have := HK.out; omega)))
          · have q1 : ((k : Int) == (zs.length : Int)) = false := by rw [beq_eq_false_iff_ne]; omega
            have hlt : k < zs.length := by omega
            obtain rfl := h1 (by omega)
            have hcell := H2.out k hlt
            obtain ⟨z, hz⟩ : ∃ z, zs.getD k 0 = z := ⟨_, rfl⟩
            rw [hz] at hcell
            have HZ := hid hz
            have hlt' : (k : Int) < (zs.length : Int) := by omega
            clear hz hke
            rcases (show z = 48 ∨ (49 ≤ z ∧ z ≤ 57) ∨ z < 48 ∨ 57 < z by omega) with rfl | hc | hc | hc
            · go_wp2
              go_meet
              case rel => exact ⟨At.mk (k := k + 1) (by omega) (by omega) (by omega) ((Rn_step hlt (by rw [HZ.out]; exact n1z rfl)).symm.trans HR.out) (by omega), rfl⟩
            · have q48 : (z == 48) = false := by rw [beq_eq_false_iff_ne]; omega
              have d2 : z ≤ 57 := by omega
              have d3 : 49 ≤ z := by omega
              have HC := hid hc
              clear hc
              go_wp2
              go_meet
              case rel => exact ⟨At.mk (k := k + 1) (by omega) (by omega) (by omega) ((Rn_step hlt (by rw [HZ.out]; exact n1d HC.out.1 HC.out.2)).symm.trans HR.out) (by omega), rfl⟩
            · have q48 : (z == 48) = false := by rw [beq_eq_false_iff_ne]; omega
              have d3 : decide (49 ≤ z) = false := by rw [decide_eq_false_iff_not]; omega
              have HC := hid hc
              clear hc
              go_wp2
              go_ret2
              exact ans_of (HR.out.symm.trans (Rn_halt hlt (by rw [HZ.out]; exact n1x (by have := HC.out; omega) (by have := HC.out; omega))))
            · have q48 : (z == 48) = false := by rw [beq_eq_false_iff_ne]; omega
              have d1 : decide (z ≤ 57) = false := by rw [decide_eq_false_iff_not]; omega
              have d3 : 49 ≤ z := by omega
              have HC := hid hc
              clear hc
              go_wp2
              go_ret2
              exact ans_of (HR.out.symm.trans (Rn_halt hlt (by rw [HZ.out]; exact n1x (by have := HC.out; omega) (by have := HC.out; omega))))
        · have q0 : (s == 1) = false := by rw [beq_eq_false_iff_ne]; omega
          have HS := hid hs
          clear hs
          go_wp2
          go_meet
          case rel => exact ⟨At.mk hk (by have := HS.out; omega) hs8 HR.out (by omega), rfl⟩
    case rest =>
      obtain ⟨⟨k, s, rfl, rfl, hk, hlo, hs8, hR, hx⟩, hw⟩ := hcut
      rw [hw]
      clear hw wc
      have HR := hid hR
      have HX := hid hx
      clear hR hx
      go_upto_if 56 with fail
      go_cut [1, 2] from 8 (fun iv av wx => At3 zs R0 iv av ∧ wx = w)
      case first =>
        as_aux_lemma =>
          by_cases hs : s = 3
          · subst hs
            go_wp2_with fail
            refine (digitsEnd_any a c zs w hr'.out hn k hk).mono ?_
            rintro e1 w' ⟨j, rfl, hA, hnd, rfl⟩
            have HA := hid hA
            have HND := hid hnd
            clear hA hnd
            go_wp2
            go_meet
            case rel => exact ⟨⟨j, 3, rfl, rfl, HA.out.2.1, by omega, by omega, (HA.out.2.2.1 3 (.inl rfl)).symm.trans HR.out, fun _ => HND.out⟩, rfl⟩
          · have q0 : (s == 3) = false := by rw [beq_eq_false_iff_ne]; omega
            have HS := hid hs
            clear hs
            go_wp2
            go_meet
            case rel => exact ⟨⟨k, s, rfl, rfl, hk, hlo, hs8, HR.out, fun h => absurd h HS.out⟩, rfl⟩
      case rest =>
        obtain ⟨⟨k, s, rfl, rfl, hk, hlo, hs8, hR, hx⟩, hw⟩ := hcut
        rw [hw]
        clear hw wc
        have HR := hid hR
        have HX := hid hx
        clear hR hx
        go_upto_if 61 with fail
        go_cut [1, 2] from 8 (fun iv av wx => At zs R0 4 iv av ∧ wx = w)
        case first =>
          as_aux_lemma =>
            rcases (show s = 2 ∨ s = 3 ∨ 4 ≤ s by omega) with hs | hs | hs
            · subst hs
              by_cases hke : k = zs.length
              · have q1 : ((k : Int) == (zs.length : Int)) = true := by rw [beq_iff_eq]; omega
                have HK := hid hke
                clear hke
                go_wp2
                go_ret2
                exact ans_of (HR.out.symm.trans (Rn_end zs k 2 (by have := HK.out; omega)))
              · have q1 : ((k : Int) == (zs.length : Int)) = false := by rw [beq_eq_false_iff_ne]; omega
                have hlt : k < zs.length := by omega
                obtain rfl := h1 (by omega)
                have hcell := H2.out k hlt
                obtain ⟨z, hz⟩ : ∃ z, zs.getD k 0 = z := ⟨_, rfl⟩
                rw [hz] at hcell
                have HZ := hid hz
                have hlt' : (k : Int) < (zs.length : Int) := by omega
                clear hz hke
                rcases (show z = 46 ∨ z = 101 ∨ z = 69 ∨ (z ≠ 46 ∧ z ≠ 101 ∧ z ≠ 69) by omega) with rfl | rfl | rfl | hc
                · go_wp2
                  go_meet
                  case rel => exact ⟨At.mk (k := k + 1) (by omega) (by omega) (by omega) ((Rn_step hlt (by rw [HZ.out]; exact n2p rfl)).symm.trans HR.out) (by omega), rfl⟩
                · go_wp2
                  go_meet
                  case rel => exact ⟨At.mk (k := k + 1) (by omega) (by omega) (by omega) ((Rn_step hlt (by rw [HZ.out]; exact n2e (.inl rfl))).symm.trans HR.out) (by omega), rfl⟩
                · go_wp2
                  go_meet
                  case rel => exact ⟨At.mk (k := k + 1) (by omega) (by omega) (by omega) ((Rn_step hlt (by rw [HZ.out]; exact n2e (.inr rfl))).symm.trans HR.out) (by omega), rfl⟩
                · have q46 : (z == 46) = false := by rw [beq_eq_false_iff_ne]; omega
                  have q101 : (z == 101) = false := by rw [beq_eq_false_iff_ne]; omega
                  have q69 : (z == 69) = false := by rw [beq_eq_false_iff_ne]; omega
                  have HC := hid hc
                  clear hc
                  go_wp2
                  go_ret2
                  exact ans_of (HR.out.symm.trans (Rn_halt hlt (by rw [HZ.out]; exact n2x (by have := HC.out; omega) (by have := HC.out; omega))))
            · subst hs
              have HX3 := hid (HX.out rfl)
              clear HX
              by_cases hke : k = zs.length
              · have q1 : ((k : Int) == (zs.length : Int)) = true := by rw [beq_iff_eq]; omega
                have HK := hid hke
                clear hke
                go_wp2
                go_ret2
                exact ans_of (HR.out.symm.trans (Rn_end zs k 3 (by have := HK.out; omega)))
              · have q1 : ((k : Int) == (zs.length : Int)) = false := by rw [beq_eq_false_iff_ne]; omega
                have hlt : k < zs.length := by omega
                obtain rfl := h1 (by omega)
                have hcell := H2.out k hlt
                obtain ⟨z, hz⟩ : ∃ z, zs.getD k 0 = z := ⟨_, rfl⟩
                rw [hz] at hcell
                have HZ := hid hz
                have hlt' : (k : Int) < (zs.length : Int) := by omega
                clear hz hke
                rcases (show z = 46 ∨ z = 101 ∨ z = 69 ∨ (z ≠ 46 ∧ z ≠ 101 ∧ z ≠ 69) by omega) with rfl | rfl | rfl | hc
                · go_wp2
                  go_meet
                  case rel => exact ⟨At.mk (k := k + 1) (by omega) (by omega) (by omega) ((Rn_step hlt (by rw [HZ.out]; exact n3p rfl)).symm.trans HR.out) (by omega), rfl⟩
                · go_wp2
                  go_meet
                  case rel => exact ⟨At.mk (k := k + 1) (by omega) (by omega) (by omega) ((Rn_step hlt (by rw [HZ.out]; exact n3e (.inl rfl))).symm.trans HR.out) (by omega), rfl⟩
                · go_wp2
                  go_meet
                  case rel => exact ⟨At.mk (k := k + 1) (by omega) (by omega) (by omega) ((Rn_step hlt (by rw [HZ.out]; exact n3e (.inr rfl))).symm.trans HR.out) (by omega), rfl⟩
                · have q46 : (z == 46) = false := by rw [beq_eq_false_iff_ne]; omega
                  have q101 : (z == 101) = false := by rw [beq_eq_false_iff_ne]; omega
                  have q69 : (z == 69) = false := by rw [beq_eq_false_iff_ne]; omega
                  have HC := hid hc
                  clear hc
                  go_wp2
                  go_ret2
                  exact ans_of (HR.out.symm.trans (Rn_halt hlt (by rw [HZ.out]; exact n3x (by have := HC.out; omega) (by have := HC.out; omega) (by have h := HX3.out hlt; rw [HZ.out] at h; exact h))))
            · go_wp2
              go_meet
              case rel => exact ⟨At.mk hk hs hs8 HR.out (by omega), rfl⟩
        case rest =>
          obtain ⟨⟨k, s, rfl, rfl, hk, hlo, hs8, hR, hx⟩, hw⟩ := hcut
          rw [hw]
          clear hw wc
          have HR := hid hR
          have HX := hid hx
          clear hR hx
          go_upto_if 93 with fail
          go_cut [1, 2] from 8 (fun iv av wx => At zs R0 5 iv av ∧ wx = w)
          case first =>
            as_aux_lemma =>
              by_cases hs : s = 4
              · subst hs
                by_cases hke : k = zs.length
                · have q1 : ((k : Int) == (zs.length : Int)) = true := by rw [beq_iff_eq]; omega
                  have HK := hid hke
                  clear hke
                  go_wp2
                  go_ret2
                  exact ans_of (HR.out.symm.trans (Rn_end zs k 4 (by have := HK.out; omega)))
                · have q1 : ((k : Int) == (zs.length : Int)) = false := by rw [beq_eq_false_iff_ne]; omega
                  have hlt : k < zs.length := by omega
                  obtain rfl := h1 (by omega)
                  have hcell := H2.out k hlt
                  obtain ⟨z, hz⟩ : ∃ z, zs.getD k 0 = z := ⟨_, rfl⟩
                  rw [hz] at hcell
                  have HZ := hid hz
                  have hlt' : (k : Int) < (zs.length : Int) := by omega
                  clear hz hke
                  rcases (show (48 ≤ z ∧ z ≤ 57) ∨ z < 48 ∨ 57 < z by omega) with hc | hc | hc
                  · have d1 : 48 ≤ z := by omega
                    have d2 : z ≤ 57 := by omega
                    have HC := hid hc
                    clear hc
                    go_wp2
                    go_meet
                    case rel => exact ⟨At.mk (k := k) (by omega) (by omega) (by omega) ((four_five hlt (by rw [HZ.out]; exact HC.out.1) (by rw [HZ.out]; exact HC.out.2)).symm.trans HR.out) (by omega), rfl⟩
                  · have d1 : decide (48 ≤ z) = false := by rw [decide_eq_false_iff_not]; omega
                    have HC := hid hc
                    clear hc
                    go_wp2
                    go_ret2
                    exact ans_of (HR.out.symm.trans (Rn_halt hlt (by rw [HZ.out]; exact n4x (by have := HC.out; omega))))
                  · have d1 : decide (z ≤ 57) = false := by rw [decide_eq_false_iff_not]; omega
                    have d2 : 48 ≤ z := by omega
                    have HC := hid hc
                    clear hc
                    go_wp2
                    go_ret2
                    exact ans_of (HR.out.symm.trans (Rn_halt hlt (by rw [HZ.out]; exact n4x (by have := HC.out; omega))))
              · have q0 : (s == 4) = false := by rw [beq_eq_false_iff_ne]; omega
                have HS := hid hs
                clear hs
                go_wp2
                go_meet
                case rel => exact ⟨At.mk hk (by have := HS.out; omega) hs8 HR.out (by omega), rfl⟩
          case rest =>
            obtain ⟨⟨k, s, rfl, rfl, hk, hlo, hs8, hR, hx⟩, hw⟩ := hcut
            rw [hw]
            clear hw wc
            have HR := hid hR
            have HX := hid hx
            clear hR hx
            go_upto_if 109 with fail
            go_cut [1, 2] from 8 (fun iv av wx => At zs R0 6 iv av ∧ wx = w)
            case first =>
              as_aux_lemma =>
                by_cases hs : s = 5
                · subst hs
                  go_wp2_with fail
                  refine (digitsEnd_any a c zs w hr'.out hn k hk).mono ?_
                  rintro e1 w' ⟨j, rfl, hA, hnd, rfl⟩
                  have hj := hA.2.1
                  have hRj := (hA.2.2.1 5 (.inr (.inl rfl))).symm.trans HR.out
                  have HND := hid hnd
                  have HRj := hid hRj
                  clear hA hnd hRj HR hk
                  by_cases hke : j = zs.length
                  · have q1 : ((j : Int) == (zs.length : Int)) = true := by rw [beq_iff_eq]; omega
                    have HK := hid hke
                    clear hke
                    go_wp2
                    go_ret2
                    exact ans_of (HRj.out.symm.trans (Rn_end zs j 5 (by have := HK.out; omega)))
                  · have q1 : ((j : Int) == (zs.length : Int)) = false := by rw [beq_eq_false_iff_ne]; omega
                    have hlt : j < zs.length := by omega
                    have hnd := HND.out hlt
                    obtain rfl := h1 (by omega)
                    have hcell := H2.out j hlt
                    obtain ⟨z, hz⟩ : ∃ z, zs.getD j 0 = z := ⟨_, rfl⟩
                    rw [hz] at hcell hnd
                    have HZ := hid hz
                    have hlt' : (j : Int) < (zs.length : Int) := by omega
                    have HN := hid hnd
                    clear hz hke hnd
                    rcases (show z = 101 ∨ z = 69 ∨ (z ≠ 101 ∧ z ≠ 69) by omega) with rfl | rfl | hc
                    · go_wp2
                      go_meet
                      case rel => exact ⟨At.mk (k := j + 1) (by omega) (by omega) (by omega) ((Rn_step hlt (by rw [HZ.out]; exact n5e (.inl rfl))).symm.trans HRj.out) (by omega), rfl⟩
                    · go_wp2
                      go_meet
                      case rel => exact ⟨At.mk (k := j + 1) (by omega) (by omega) (by omega) ((Rn_step hlt (by rw [HZ.out]; exact n5e (.inr rfl))).symm.trans HRj.out) (by omega), rfl⟩
                    · have q101 : (z != 101) = true := by rw [bne_iff_ne]; exact hc.1
                      have q69 : (z != 69) = true := by rw [bne_iff_ne]; exact hc.2
                      have HC := hid hc
                      clear hc
                      go_wp2
                      go_ret2
                      exact ans_of (HRj.out.symm.trans (Rn_halt hlt (by rw [HZ.out]; exact n5x (by have := HC.out; omega) HN.out)))
                · have q0 : (s == 5) = false := by rw [beq_eq_false_iff_ne]; omega
                  have HS := hid hs
                  clear hs
                  go_wp2
                  go_meet
                  case rel => exact ⟨At.mk hk (by have := HS.out; omega) hs8 HR.out (by omega), rfl⟩
            case rest =>
              obtain ⟨⟨k, s, rfl, rfl, hk, hlo, hs8, hR, hx⟩, hw⟩ := hcut
              rw [hw]
              clear hw wc
              have HR := hid hR
              have HX := hid hx
              clear hR hx
              go_upto_if 136 with fail
              go_cut [1, 2] from 8 (fun iv av wx => At zs R0 7 iv av ∧ wx = w)
              case first =>
                as_aux_lemma =>
                  by_cases hs : s = 6
                  · subst hs
                    by_cases hke : k = zs.length
                    · have q1 : ((k : Int) == (zs.length : Int)) = true := by rw [beq_iff_eq]; omega
                      have HK := hid hke
                      clear hke
                      go_wp2
                      go_ret2
                      exact ans_of (HR.out.symm.trans (Rn_end zs k 6 (by have := HK.out; omega)))
                    · have q1 : ((k : Int) == (zs.length : Int)) = false := by rw [beq_eq_false_iff_ne]; omega
                      have hlt : k < zs.length := by omega
                      obtain rfl := h1 (by omega)
                      have hcell := H2.out k hlt
                      obtain ⟨z, hz⟩ : ∃ z, zs.getD k 0 = z := ⟨_, rfl⟩
                      rw [hz] at hcell
                      have HZ := hid hz
                      have hlt' : (k : Int) < (zs.length : Int) := by omega
                      clear hz hke
                      rcases (show z = 43 ∨ z = 45 ∨ (z ≠ 43 ∧ z ≠ 45) by omega) with rfl | rfl | hc
                      · go_wp2
                        go_meet
                        case rel => exact ⟨At.mk (k := k + 1) (by omega) (by omega) (by omega) ((Rn_step hlt (by rw [HZ.out]; exact n6s (.inl rfl))).symm.trans HR.out) (by omega), rfl⟩
                      · go_wp2
                        go_meet
                        case rel => exact ⟨At.mk (k := k + 1) (by omega) (by omega) (by omega) ((Rn_step hlt (by rw [HZ.out]; exact n6s (.inr rfl))).symm.trans HR.out) (by omega), rfl⟩
                      · have q43 : (z == 43) = false := by rw [beq_eq_false_iff_ne]; omega
                        have q45 : (z == 45) = false := by rw [beq_eq_false_iff_ne]; omega
                        have HC := hid hc
                        clear hc
                        go_wp2
                        go_meet
                        case rel => exact ⟨At.mk (k := k) (by omega) (by omega) (by omega) ((Rn_eps (s := 6) (s' := 7) hlt (by rw [HZ.out]; exact n6x (by have := HC.out; omega)) rfl).symm.trans HR.out) (by omega), rfl⟩
                  · have q0 : (s == 6) = false := by rw [beq_eq_false_iff_ne]; omega
                    have HS := hid hs
                    clear hs
                    go_wp2
                    go_meet
                    case rel => exact ⟨At.mk hk (by have := HS.out; omega) hs8 HR.out (by omega), rfl⟩
              case rest =>
                obtain ⟨⟨k, s, rfl, rfl, hk, hlo, hs8, hR, hx⟩, hw⟩ := hcut
                rw [hw]
                clear hw wc
                have HR := hid hR
                have HX := hid hx
                clear hR hx
                go_upto_if 158 with fail
                go_cut [1, 2] from 8 (fun iv av wx => At zs R0 8 iv av ∧ wx = w)
                case first =>
                  as_aux_lemma =>
                    by_cases hs : s = 7
                    · subst hs
                      by_cases hke : k = zs.length
                      · have q1 : ((k : Int) == (zs.length : Int)) = true := by rw [beq_iff_eq]; omega
                        have HK := hid hke
                        clear hke
                        go_wp2
                        go_ret2
                        exact ans_of (HR.out.symm.trans (Rn_end zs k 7 (by have := HK.out; omega)))
                      · have q1 : ((k : Int) == (zs.length : Int)) = false := by rw [beq_eq_false_iff_ne]; omega
                        have hlt : k < zs.length := by omega
                        obtain rfl := h1 (by omega)
                        have hcell := H2.out k hlt
                        obtain ⟨z, hz⟩ : ∃ z, zs.getD k 0 = z := ⟨_, rfl⟩
                        rw [hz] at hcell
                        have HZ := hid hz
                        have hlt' : (k : Int) < (zs.length : Int) := by omega
                        clear hz hke
                        rcases (show (48 ≤ z ∧ z ≤ 57) ∨ z < 48 ∨ 57 < z by omega) with hc | hc | hc
                        · have d1 : 48 ≤ z := by omega
                          have d2 : z ≤ 57 := by omega
                          have HC := hid hc
                          clear hc
                          go_wp2
                          go_meet
                          case rel => exact ⟨At.mk (k := k) (by omega) (by omega) (by omega) ((seven_eight hlt (by rw [HZ.out]; exact HC.out.1) (by rw [HZ.out]; exact HC.out.2)).symm.trans HR.out) (by omega), rfl⟩
                        · have d1 : decide (48 ≤ z) = false := by rw [decide_eq_false_iff_not]; omega
                          have HC := hid hc
                          clear hc
                          go_wp2
                          go_ret2
                          exact ans_of (HR.out.symm.trans (Rn_halt hlt (by rw [HZ.out]; exact n7x (by have := HC.out; omega))))
                        · have d1 : decide (z ≤ 57) = false := by rw [decide_eq_false_iff_not]; omega
                          have d2 : 48 ≤ z := by omega
                          have HC := hid hc
                          clear hc
                          go_wp2
                          go_ret2
                          exact ans_of (HR.out.symm.trans (Rn_halt hlt (by rw [HZ.out]; exact n7x (by have := HC.out; omega))))
                    · have q0 : (s == 7) = false := by rw [beq_eq_false_iff_ne]; omega
                      have HS := hid hs
                      clear hs
                      go_wp2
                      go_meet
                      case rel => exact ⟨At.mk hk (by have := HS.out; omega) hs8 HR.out (by omega), rfl⟩
                case rest =>
                  obtain ⟨⟨k, s, rfl, rfl, hk, hlo, hs8, hR, hx⟩, hw⟩ := hcut
                  rw [hw]
                  clear hw wc
                  obtain rfl : s = 8 := by omega
                  have HR := hid hR
                  clear hR hx
                  go_wp2_with fail
                  refine (digitsEnd_any a c zs w hr'.out hn k hk).mono ?_
                  rintro e1 w' ⟨j, rfl, hA, hnd, rfl⟩
                  have HE := hid (ans_of (w := w') ((HR.out.symm.trans (hA.2.2.1 8 (.inr (.inr rfl)))).trans (eight_end hA.2.1 hnd)))
                  clear hA hnd
                  go_wp2
                  go_ret2
                  exact HE.out

end Go.Proofs.Qxb6601649a

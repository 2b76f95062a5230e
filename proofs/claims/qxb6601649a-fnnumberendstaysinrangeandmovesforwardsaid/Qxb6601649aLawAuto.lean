/-
  THE WALKS of ZZNumberEnd (10) and of the law FnNumberEndMatchesAutomaton (3).
-/
import Derived.Test.Qxb6601649aNumEnd
import Derived.Test.Qxb6601649aClone
namespace Go.Proofs.Qxb6601649a
open Go.RowKit

set_option maxHeartbeats 400000 in
theorem zzNumberEnd_any (a : Option Addr) (c : Nat) (zs : List Int) (w : World) (hr : RdB w a zs) (hn : zs.length ≤ 1048576) (i : Nat) (hi : i ≤ zs.length) (st : Int) (h0 : 0 ≤ st) (h8 : st ≤ 8) :
    Calls Try.prog 10 #[.slice a zs.length c, .int .i64 i, .int .i64 st] w (Ans (Rn zs i st) w) := by
  go_enter Try.func10, Try.ntmps10
  go_wp2_with fail
  refine (numberEnd_any a c zs w hr hn i hi st h0 h8).mono ?_
  rintro e w' ⟨rfl, rfl⟩
  go_wp2
  go_ret2
  exact ⟨rfl, rfl⟩

theorem own_rdAt {w : World} {base : Nat} {a : Option Addr} {n m c : Nat} {zs : List Int} (h : w.ownsRow base 5 1 (.slice a n c) m (bs zs)) : RdB w a zs := by
  obtain ⟨_, _, _, hv, hr, _⟩ := own_rd h
  simp only [Value.slice.injEq] at hv
  rw [hv.1]; exact hr

set_option maxHeartbeats 1000000 in
theorem lawA_walk (da : Option Addr) (dc : Nat) (zs : List Int) (i st : Int) (w : World)
    (hD : RdB w da zs) (hD0 : da = none → dc = 0) (hD1 : zs.length ≤ dc) (hD2 : dc ≤ maxLen) :
    Calls Try.prog 3 #[.slice da zs.length dc, .int .i64 i, .int .i64 st] w (Yes w) := by
  unfold maxLen at hD2
  go_enter Try.func3, Try.ntmps3
  go_wp2_with fail
  refine (zz8_any da _ dc i st w (by unfold maxLen; omega)).mono ?_
  rintro e1 w' ⟨r, rfl, -, rfl⟩
  cases r
  · go_wp2
    go_ret
    exact ⟨rfl, Below.refl _ _⟩
  by_cases hn : zs.length ≤ 1048576
  case neg =>
    go_wp2_with fail
    go_ret
    exact ⟨rfl, Below.refl _ _⟩
  have hdn : decide (1048576 < (zs.length : Int)) = false := by rw [decide_eq_false_iff_not]; omega
  by_cases hi0 : 0 ≤ i
  case neg =>
    go_wp2_with fail
    go_ret
    exact ⟨rfl, Below.refl _ _⟩
  have hdi : decide (i < 0) = false := by rw [decide_eq_false_iff_not]; omega
  by_cases hi1 : i ≤ (zs.length : Int)
  case neg =>
    go_wp2_with fail
    go_ret
    exact ⟨rfl, Below.refl _ _⟩
  have hdj : decide ((zs.length : Int) < i) = false := by rw [decide_eq_false_iff_not]; omega
  by_cases hs0 : 0 ≤ st
  case neg =>
    go_wp2_with fail
    go_ret
    exact ⟨rfl, Below.refl _ _⟩
  have hds : decide (st < 0) = false := by rw [decide_eq_false_iff_not]; omega
  by_cases hs8 : st ≤ 8
  case neg =>
    go_wp2_with fail
    go_ret
    exact ⟨rfl, Below.refl _ _⟩
  have hdt : decide (8 < st) = false := by rw [decide_eq_false_iff_not]; omega
  obtain ⟨k, rfl⟩ := Int.eq_ofNat_of_zero_le hi0
  go_wp2_with fail
  refine (cloneBytes_any da _ dc zs _ hD rfl hD0 hD1 (by omega)).mono ?_
  rintro e1 w1 ⟨da', rfl, hO, hb1⟩
  have hD' := own_rdAt hO
  clear hO hD
  go_wp2_with fail
  refine (zzNumberEnd_any da' _ zs w1 hD' hn k (by omega) st hs0 hs8).mono ?_
  rintro e1 w2 ⟨he, rfl⟩
  obtain ⟨R, hR⟩ : ∃ R, Rn zs k st = R := ⟨_, rfl⟩
  rw [hR] at he
  subst he
  have HR := hid hR
  clear hR
  go_wp2_with fail
  refine (automaton_any da' _ zs w2 hD' hn k (by omega) st hs0 hs8).mono ?_
  rintro e1 w3 ⟨he, rfl⟩
  rw [HR.out] at he
  subst he
  go_wp2
  go_ret
  exact ⟨rfl, hb1⟩

end Go.Proofs.Qxb6601649a

/-
  PLAIN: where the automaton stops; THE WALKS of numberByte (14) and of the law FnNumberEndStaysInRangeAndMovesForward (5).
-/
import Derived.Test.Qxb6601649aLawAuto
namespace Go.Proofs.Qxb6601649a
open Go.RowKit

/-- A byte that JSON's numbers are written with. -/
def NumB (c : Int) : Prop := (48 ≤ c ∧ c ≤ 57) ∨ c = 45 ∨ c = 43 ∨ c = 46 ∨ c = 101 ∨ c = 69

theorem nxt_some {s c s' : Int} (h0 : 0 ≤ s) (h8 : s ≤ 8) (h : nxt s c = some s') : s ≤ s' ∧ s' ≤ 8 ∧ NumB c := by
  unfold nxt at h
  unfold NumB
  repeat' (split at h)
  all_goals (first | (simp at h; done) | (simp only [Option.some.injEq] at h; omega))

theorem stop_bd {s : Int} (h0 : 0 ≤ s) (h8 : s ≤ 8) : s ≤ stop s ∧ stop s ≤ 8 := by
  unfold stop
  repeat' split
  all_goals omega

theorem run_bd (zs : List Int) : ∀ s, 0 ≤ s → s ≤ 8 → (run zs s).1 ≤ zs.length ∧ s ≤ (run zs s).2 ∧ (run zs s).2 ≤ 8 ∧ ∀ t, t < (run zs s).1 → NumB (zs.getD t 0) := by
  induction zs with
  | nil => exact fun s h0 h8 => ⟨Nat.le_refl _, Int.le_refl _, h8, fun t ht => by simp [run] at ht⟩
  | cons c t ih =>
    intro s h0 h8
    cases hn : nxt s c with
    | none =>
      have e : run (c :: t) s = (0, stop s) := by simp only [run, hn]
      rw [e]
      exact ⟨Nat.zero_le _, (stop_bd h0 h8).1, (stop_bd h0 h8).2, fun j hj => by simp at hj⟩
    | some s' =>
      have e : run (c :: t) s = ((run t s').1 + 1, (run t s').2) := by simp only [run, hn]
      obtain ⟨a1, a2, a3⟩ := nxt_some h0 h8 hn
      obtain ⟨b1, b2, b3, b4⟩ := ih s' (by omega) a2
      rw [e]
      refine ⟨by simpa using b1, by simp only; omega, b3, fun j hj => ?_⟩
      cases j with
      | zero => exact a3
      | succ j => exact b4 j (by simpa using hj)

theorem Rn_bd {zs : List Int} {i : Nat} {s : Int} (hi : i ≤ zs.length) (h0 : 0 ≤ s) (h8 : s ≤ 8) :
    i ≤ (Rn zs i s).1 ∧ (Rn zs i s).1 ≤ zs.length ∧ s ≤ (Rn zs i s).2 ∧ (Rn zs i s).2 ≤ 8 ∧ ∀ t, i ≤ t → t < (Rn zs i s).1 → NumB (zs.getD t 0) := by
  obtain ⟨b1, b2, b3, b4⟩ := run_bd (zs.drop i) s h0 h8
  unfold Rn
  rw [List.length_drop] at b1
  refine ⟨by simp only; omega, by simp only; omega, b2, b3, fun t h1 h2 => ?_⟩
  have := b4 (t - i) (by simp only at h2; omega)
  simp only [List.getD, List.getElem?_drop] at this ⊢
  rwa [show i + (t - i) = t by omega] at this

set_option maxHeartbeats 1000000 in
theorem numberByte_yes (z : Int) (w : World) (h : NumB z) : Calls Try.prog 14 #[.int .u8 z] w fun e w' => e = .returned (.bool true) ∧ w' = w := by
  rcases h with ⟨d1, d2⟩ | rfl | rfl | rfl | rfl | rfl
  all_goals
    go_enter Try.func14, Try.ntmps14
    go_wp2
    go_ret
    exact ⟨rfl, rfl⟩

set_option maxHeartbeats 1600000 in
theorem lawR_walk (da : Option Addr) (dc : Nat) (zs : List Int) (i st : Int) (w : World)
    (hD : RdB w da zs) (hD0 : da = none → dc = 0) (hD1 : zs.length ≤ dc) (hD2 : dc ≤ maxLen) :
    Calls Try.prog 5 #[.slice da zs.length dc, .int .i64 i, .int .i64 st] w (Yes w) := by
  unfold maxLen at hD2
  go_enter Try.func5, Try.ntmps5
  go_wp2_with fail
  refine (zz13_any da _ dc i st w (by unfold maxLen; omega)).mono ?_
  rintro e1 w' ⟨r, rfl, -, rfl⟩
  cases r
  · go_wp2
    go_ret
    exact ⟨rfl, Below.refl _ _⟩
  by_cases hn : zs.length ≤ 1048576
  case neg =>
    go_wp2_with fail
    go_ret
    exact ⟨rfl, Below.refl _ _⟩
  have hdn : decide (1048576 < (zs.length : Int)) = false := by rw [decide_eq_false_iff_not]; omega
  by_cases hi0 : 0 ≤ i
  case neg =>
    go_wp2_with fail
    go_ret
    exact ⟨rfl, Below.refl _ _⟩
  have hdi : decide (i < 0) = false := by rw [decide_eq_false_iff_not]; omega
  by_cases hi1 : i ≤ (zs.length : Int)
  case neg =>
    go_wp2_with fail
    go_ret
    exact ⟨rfl, Below.refl _ _⟩
  have hdj : decide ((zs.length : Int) < i) = false := by rw [decide_eq_false_iff_not]; omega
  by_cases hs0 : 0 ≤ st
  case neg =>
    go_wp2_with fail
    go_ret
    exact ⟨rfl, Below.refl _ _⟩
  have hds : decide (st < 0) = false := by rw [decide_eq_false_iff_not]; omega
  by_cases hs8 : st ≤ 8
  case neg =>
    go_wp2_with fail
    go_ret
    exact ⟨rfl, Below.refl _ _⟩
  have hdt : decide (8 < st) = false := by rw [decide_eq_false_iff_not]; omega
  obtain ⟨k, rfl⟩ := Int.eq_ofNat_of_zero_le hi0
  have hbd := Rn_bd (zs := zs) (i := k) (s := st) (by omega) hs0 hs8
  go_wp2_with fail
  refine (cloneBytes_any da _ dc zs _ hD rfl hD0 hD1 (by omega)).mono ?_
  rintro e1 w1 ⟨da', rfl, hO, hb1⟩
  have hD' := own_rdAt hO
  clear hO hD
  go_wp2_with fail
  refine (zzNumberEnd_any da' _ zs w1 hD' hn k (by omega) st hs0 hs8).mono ?_
  rintro e1 w2 ⟨he, rfl⟩
  generalize Rn zs k st = R at *
  obtain ⟨J, S⟩ := R
  subst he
  simp only at hbd
  obtain ⟨a1, a2, a3, a4, a5⟩ := hbd
  have x1 : decide (J < k) = false := by rw [decide_eq_false_iff_not]; omega
  have x2 : decide (zs.length < J) = false := by rw [decide_eq_false_iff_not]; omega
  have x3 : decide (S < st) = false := by rw [decide_eq_false_iff_not]; omega
  have x4 : decide (8 < S) = false := by rw [decide_eq_false_iff_not]; omega
  have HN := hid a5
  clear a5
  go_wp2
  go_loopg [9] (J - k) (fun g v wr => ∃ t : Nat, g = J - t ∧ k ≤ t ∧ t ≤ J ∧ v = .int .i64 t ∧ wr = w2)
  case atStart => exact ⟨k, rfl, Nat.le_refl _, a1, rfl, rfl⟩
  case round =>
    obtain ⟨t, hg, ht1, ht2, rfl, hwr⟩ := hrel
    rw [hwr]
    clear hwr wr
    have HG := hid hg
    clear hg
    by_cases hlt : t < J
    · obtain ⟨b, off, h1, h2⟩ := hD'
      obtain rfl := h1 (by omega)
      have hcell := h2 t (by omega)
      have hnb := hid (HN.out t ht1 hlt)
      obtain ⟨z, hz⟩ : ∃ z, zs.getD t 0 = z := ⟨_, rfl⟩
      rw [hz] at hcell hnb
      clear hz h2
      have hlt' : (t : Int) < (J : Int) := by omega
      go_wp2_with fail
      refine (numberByte_yes z _ hnb.out).mono ?_
      rintro e1 w3 ⟨rfl, rfl⟩
      go_wp2
      go_roundg (J - (t + 1))
      case measure => have := HG.out; omega
      case rel => exact ⟨t + 1, rfl, by omega, by omega, by go_num, rfl⟩
    · have hlt' : ¬ (t : Int) < (J : Int) := by omega
      go_wp2
      go_ret
      exact ⟨rfl, hb1⟩

end Go.Proofs.Qxb6601649a

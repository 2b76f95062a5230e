/-
  THE WALKS of zzBytes (8, 13), digitsEnd (27).
-/
import Derived.Test.Qxb6601649aRows
import Derived.Test.Qxb6601649aBase
import Derived.Test.Qxb6601649aAuto
import Derived.WalkLawsBesides
import Derived.Deep.LoopGhost
namespace Go.Proofs.Qxb6601649a
open Go.RowKit

/-- A function that only reads, and answers a bool: what its 'true' brings. -/
def Brings (w : World) (p : Prop) (e : Ending) (w' : World) : Prop := ∃ r : Bool, e = .returned (.bool r) ∧ (r = true → p) ∧ w' = w
theorem Brings.no (w : World) (p : Prop) : Brings w p (.returned (.bool false)) w := ⟨_, rfl, (fun h => by cases h), rfl⟩
theorem Brings.yes (w : World) {p : Prop} (h : p) : Brings w p (.returned (.bool true)) w := ⟨_, rfl, fun _ => h, rfl⟩

def Yes (w : World) (e : Ending) (w' : World) : Prop := e = .returned (.bool true) ∧ Below w.heap.size w w'

set_option maxHeartbeats 400000 in
theorem zz8_any (a : Option Addr) (n c : Nat) (s t : Int) (w : World) (hn : n ≤ maxLen) : Calls Try.prog 8 #[.slice a n c, .int .i64 s, .int .i64 t] w (Brings w True) := by
  unfold maxLen at hn
  go_enter Try.func8, Try.ntmps8
  go_wp2
  all_goals
    go_ret
    first | exact Brings.no _ _ | exact Brings.yes _ trivial

set_option maxHeartbeats 400000 in
theorem zz13_any (a : Option Addr) (n c : Nat) (s t : Int) (w : World) (hn : n ≤ maxLen) : Calls Try.prog 13 #[.slice a n c, .int .i64 s, .int .i64 t] w (Brings w True) := by
  unfold maxLen at hn
  go_enter Try.func13, Try.ntmps13
  go_wp2
  all_goals
    go_ret
    first | exact Brings.no _ _ | exact Brings.yes _ trivial

/-- What digitsEnd answers. -/
def DE (zs : List Int) (i : Nat) (w : World) (e : Ending) (w' : World) : Prop :=
  ∃ j : Nat, e = .returned (.int .i64 j) ∧ Ahead zs i j ∧ (j < zs.length → ¬ (48 ≤ zs.getD j 0 ∧ zs.getD j 0 ≤ 57)) ∧ w' = w

set_option maxHeartbeats 1000000 in
theorem digitsEnd_any (a : Option Addr) (c : Nat) (zs : List Int) (w : World) (hr : RdB w a zs) (hn : zs.length ≤ 1048576) (i : Nat) (hi : i ≤ zs.length) :
    Calls Try.prog 27 #[.slice a zs.length c, .int .i64 i] w (DE zs i w) := by
  obtain ⟨b, off, h1, h2⟩ := hr
  go_enter Try.func27, Try.ntmps27
  go_wp2
  go_loopg [1] (zs.length - i) (fun g v wr => ∃ k : Nat, g = zs.length - k ∧ k ≤ zs.length ∧ v = .int .i64 k ∧ Ahead zs i k ∧ wr = w)
  case atStart => exact ⟨i, rfl, hi, rfl, Ahead.refl _ _ hi, rfl⟩
  case round =>
    obtain ⟨k, hg, hk, rfl, hA, hwr⟩ := hrel
    subst hwr
    have HG := hid hg
    have HA := hid hA
    clear hg hA
    by_cases hlt : k < zs.length
    · obtain rfl := h1 (by omega)
      have hc := h2 k hlt
      obtain ⟨z, hz⟩ : ∃ z, zs.getD k 0 = z := ⟨_, rfl⟩
      rw [hz] at hc
      have HZ := hid hz
      clear hz h2
      have hlt' : (k : Int) < (zs.length : Int) := by omega
      by_cases hd1 : 48 ≤ z
      · by_cases hd2 : z ≤ 57
        · go_wp2
          go_roundg (zs.length - (k + 1))
          case measure => have := HG.out; omega
          case rel => exact ⟨k + 1, rfl, by omega, by go_num, HA.out.snoc hlt (by rw [HZ.out]; exact hd1) (by rw [HZ.out]; exact hd2), rfl⟩
        · go_wp2
          go_ret
          exact ⟨k, rfl, HA.out, (fun _ h => by rw [HZ.out] at h; omega), rfl⟩
      · go_wp2
        go_ret
        exact ⟨k, rfl, HA.out, (fun _ h => by rw [HZ.out] at h; omega), rfl⟩
    · have hlt' : ¬ (k : Int) < (zs.length : Int) := by omega
      clear h2
      go_wp2
      go_ret
      exact ⟨k, rfl, HA.out, fun h => absurd h hlt, rfl⟩

end Go.Proofs.Qxb6601649a

/-
  THE SMALL WALKS: isDigit (12, 16), zzBytes (6, 9), zzB1HasDigit (10), zzB1Pow10 (11).
-/
import Derived.Test.Qxb6601657aRows
import Derived.Test.Qxb6601657aPlain
import Derived.WalkKit
import Derived.WalkSpells
import Derived.WalkLawsBesides
import Derived.Deep.LoopGhost
namespace Go.Proofs.Qxb6601657a
open Go.RowKit

theorem hid {p : Prop} (h : p) : Hid p := h

/-- The k-th byte of s. -/
def by8 (s : ByteArray) (k : Nat) : Int := if h : k < s.size then (s[k].toNat : Int) else 0
theorem by8_eq {s : ByteArray} {k : Nat} (h : k < s.size) : (s[k].toNat : Int) = by8 s k := by simp [by8, h]

/-- It answers b, and the world stands. -/
def Tells (w : World) (b : Bool) (e : Ending) (w' : World) : Prop := e = .returned (.bool b) ∧ w' = w

set_option maxHeartbeats 400000 in
theorem dig16_yes (z : Int) (h : dgt z = true) (w : World) : Calls Try.prog 16 #[.int .u8 z] w (Tells w true) := by
  obtain ⟨h1, h2⟩ := dgt_true h
  clear h
  go_enter Try.func16, Try.ntmps16
  go_wp2
  go_ret
  exact ⟨rfl, rfl⟩

set_option maxHeartbeats 400000 in
theorem dig16_no (z : Int) (h : ¬ dgt z = true) (w : World) : Calls Try.prog 16 #[.int .u8 z] w (Tells w false) := by
  have h := dgt_false h
  by_cases h1 : 48 ≤ z
  · have h2 : ¬ z ≤ 57 := by omega
    clear h
    go_enter Try.func16, Try.ntmps16
    go_wp2
    go_ret
    exact ⟨rfl, rfl⟩
  · clear h
    go_enter Try.func16, Try.ntmps16
    go_wp2
    go_ret
    exact ⟨rfl, rfl⟩

set_option maxHeartbeats 400000 in
theorem dig12_yes (z : Int) (h : dgt z = true) (w : World) : Calls Try.prog 12 #[.int .u8 z] w (Tells w true) := by
  obtain ⟨h1, h2⟩ := dgt_true h
  clear h
  go_enter Try.func12, Try.ntmps12
  go_wp2
  go_ret
  exact ⟨rfl, rfl⟩

set_option maxHeartbeats 400000 in
theorem dig12_no (z : Int) (h : ¬ dgt z = true) (w : World) : Calls Try.prog 12 #[.int .u8 z] w (Tells w false) := by
  have h := dgt_false h
  by_cases h1 : 48 ≤ z
  · have h2 : ¬ z ≤ 57 := by omega
    clear h
    go_enter Try.func12, Try.ntmps12
    go_wp2
    go_ret
    exact ⟨rfl, rfl⟩
  · clear h
    go_enter Try.func12, Try.ntmps12
    go_wp2
    go_ret
    exact ⟨rfl, rfl⟩

/-- It answers some bool, and the world stands. -/
def TellsAny (w : World) (e : Ending) (w' : World) : Prop := ∃ b : Bool, e = .returned (.bool b) ∧ w' = w

set_option maxHeartbeats 400000 in
theorem zz6_any (s : ByteArray) (w : World) (hs : s.size ≤ maxLen) : Calls Try.prog 6 #[.string s] w (TellsAny w) := by
  unfold maxLen at hs
  go_enter Try.func6, Try.ntmps6
  go_wp2
  all_goals
    go_ret
    exact ⟨_, rfl, rfl⟩

set_option maxHeartbeats 400000 in
theorem zz9_any (s : ByteArray) (w : World) (hs : s.size ≤ maxLen) : Calls Try.prog 9 #[.string s] w (TellsAny w) := by
  unfold maxLen at hs
  go_enter Try.func9, Try.ntmps9
  go_wp2
  all_goals
    go_ret
    exact ⟨_, rfl, rfl⟩

/-- What zzB1HasDigit answers. -/
def Has (s : ByteArray) (w : World) (e : Ending) (w' : World) : Prop :=
  ∃ b : Bool, e = .returned (.bool b) ∧ (b = true → ∃ k, k < s.size ∧ dgt (by8 s k) = true) ∧ (b = false → NoDigit (by8 s) s.size) ∧ w' = w

set_option maxHeartbeats 1000000 in
theorem has_any (s : ByteArray) (w : World) (hs : s.size ≤ 1048576) : Calls Try.prog 10 #[.string s] w (Has s w) := by
  go_enter Try.func10, Try.ntmps10
  go_wp2
  go_loopg [3] s.size (fun g v wr => ∃ k : Nat, g = s.size - k ∧ k ≤ s.size ∧ v = .int .i64 k ∧ NoDigit (by8 s) k ∧ wr = w)
  case atStart => exact ⟨0, rfl, Nat.zero_le _, rfl, (fun k hk => absurd hk (by omega)), rfl⟩
  case round =>
    obtain ⟨k, hg, hk, rfl, hA, hwr⟩ := hrel
    subst hwr
    have HG := hid hg
    have HA := hid hA
    clear hg hA
    by_cases hlt : k < s.size
    · have e := by8_eq hlt
      obtain ⟨z, hz⟩ : ∃ z, by8 s k = z := ⟨_, rfl⟩
      rw [hz] at e
      have HZ := hid hz
      clear hz
      by_cases hd : dgt z = true
      · have HD := hid hd
        clear hd
        go_wp2_with (go_at_call 12; refine (dig12_yes _ (by first | exact HD.out | (rw [e]; exact HD.out)) _).mono ?_; rintro e' w' ⟨rfl, rfl⟩)
        go_ret
        exact ⟨_, rfl, (fun _ => ⟨k, hlt, by rw [HZ.out]; exact HD.out⟩), (fun h => by cases h), rfl⟩
      · have HD := hid hd
        clear hd
        go_wp2_with (go_at_call 12; refine (dig12_no _ (by first | exact HD.out | (rw [e]; exact HD.out)) _).mono ?_; rintro e' w' ⟨rfl, rfl⟩)
        go_roundg (s.size - (k + 1))
        case measure => have := HG.out; omega
        case rel =>
          refine ⟨k + 1, rfl, by omega, by go_num, (fun q hq => ?_), rfl⟩
          by_cases eq : q = k
          · rw [eq, HZ.out]; exact HD.out
          · exact HA.out q (by omega)
    · go_wp2
      go_ret
      exact ⟨_, rfl, (fun h => by cases h), (fun _ q hq => HA.out q (by omega)), rfl⟩

/-- What zzB1Pow10 answers. -/
def Pow (d : Nat) (w : World) (e : Ending) (w' : World) : Prop := e = .returned (.int .u64 ((10 ^ d : Nat) : Int)) ∧ w' = w

set_option maxHeartbeats 1000000 in
theorem pow_any (d : Nat) (hd : d ≤ 19) (w : World) : Calls Try.prog 11 #[.int .i64 d] w (Pow d w) := by
  go_enter Try.func11, Try.ntmps11
  go_wp2
  go_loopg [3, 4] d (fun g p v wr => ∃ k x : Nat, g = d - k ∧ k ≤ d ∧ v = .int .i64 k ∧ x = 10 ^ k ∧ p = .int .u64 x ∧ wr = w)
  case atStart => exact ⟨0, 1, rfl, Nat.zero_le _, rfl, rfl, rfl, rfl⟩
  case round =>
    obtain ⟨k, x, hg, hk, rfl, hx, rfl, hwr⟩ := hrel
    subst hwr
    have HG := hid hg
    have HX := hid hx
    clear hg hx
    by_cases hlt : k < d
    · have h19 : k < 19 := by omega
      have HXX : Hid (x * 10 = 10 ^ (k + 1)) := by rw [HX.out, Nat.pow_succ]; exact hid rfl
      have hb : x * 10 < 18446744073709551616 := by
        have h1 := pow_le_top (m := k + 1) (by omega)
        have h2 := HXX.out
        omega
      go_wp2
      go_roundg (d - (k + 1))
      case measure => have := HG.out; omega
      case rel => exact ⟨k + 1, x * 10, rfl, by omega, by go_num, HXX.out, by go_num, rfl⟩
    · go_wp2
      go_ret
      have : k = d := by omega
      exact ⟨by rw [HX.out, this]; rfl, rfl⟩

end Go.Proofs.Qxb6601657a

/-
  PLAIN: JSON's number automaton on a list of bytes (as integers). Nothing of Go here.
  'Rn zs i s': where the automaton, fed zs from index i on in state s, stops or runs out, and in which state.
-/
import Derived.WalkKit
namespace Go.Proofs.Qxb6601649a

/-- The state behind a byte that is taken; none where it is not. -/
def nxt (s c : Int) : Option Int :=
  if s = 0 ∧ c = 45 then some 1
  else if s = 0 ∨ s = 1 then (if c = 48 then some 2 else if 49 ≤ c ∧ c ≤ 57 then some 3 else none)
  else if s = 2 ∨ s = 3 then (if c = 46 then some 4 else if c = 101 ∨ c = 69 then some 6 else if s = 3 ∧ 48 ≤ c ∧ c ≤ 57 then some 3 else none)
  else if s = 4 then (if 48 ≤ c ∧ c ≤ 57 then some 5 else none)
  else if s = 5 then (if c = 101 ∨ c = 69 then some 6 else if 48 ≤ c ∧ c ≤ 57 then some 5 else none)
  else if s = 6 ∧ (c = 43 ∨ c = 45) then some 7
  else if s = 6 ∨ s = 7 then (if 48 ≤ c ∧ c ≤ 57 then some 8 else none)
  else if 48 ≤ c ∧ c ≤ 57 then some 8 else none

/-- The state in which it stops. -/
def stop (s : Int) : Int := if s = 0 then 1 else if s = 6 then 7 else s

def run : List Int → Int → Nat × Int
  | [], s => (0, s)
  | c :: t, s => match nxt s c with
    | some s' => ((run t s').1 + 1, (run t s').2)
    | none => (0, stop s)

def Rn (zs : List Int) (i : Nat) (s : Int) : Nat × Int := (i + (run (zs.drop i) s).1, (run (zs.drop i) s).2)

theorem Rn_end (zs : List Int) (i : Nat) (s : Int) (h : zs.length ≤ i) : Rn zs i s = (i, s) := by
  unfold Rn
  rw [List.drop_of_length_le h]
  rfl

theorem drop_cons (zs : List Int) (i : Nat) (h : i < zs.length) : zs.drop i = zs.getD i 0 :: zs.drop (i + 1) := by
  rw [List.drop_eq_getElem_cons h]; simp [List.getD, h]

theorem Rn_step {zs : List Int} {i : Nat} {s s' : Int} (h : i < zs.length) (hn : nxt s (zs.getD i 0) = some s') : Rn zs i s = Rn zs (i + 1) s' := by
  unfold Rn
  rw [drop_cons zs i h]
  simp only [run, hn]
  rw [Nat.add_assoc, Nat.add_comm 1]

theorem Rn_halt {zs : List Int} {i : Nat} {s : Int} (h : i < zs.length) (hn : nxt s (zs.getD i 0) = none) : Rn zs i s = (i, stop s) := by
  unfold Rn
  rw [drop_cons zs i h]
  simp only [run, hn, Nat.add_zero]

/-- Two states that go on alike. -/
theorem Rn_eps {zs : List Int} {i : Nat} {s s' : Int} (h : i < zs.length) (hn : nxt s (zs.getD i 0) = nxt s' (zs.getD i 0)) (hs : stop s = stop s') : Rn zs i s = Rn zs i s' := by
  unfold Rn
  rw [drop_cons zs i h]
  simp only [run, hn, hs]

theorem n0m {c : Int} (h : c = 45) : nxt 0 c = some 1 := by simp [nxt, h]
theorem n0x {c : Int} (h : c ≠ 45) : nxt 0 c = nxt 1 c := by simp [nxt, h]
theorem n1z {c : Int} (h : c = 48) : nxt 1 c = some 2 := by simp [nxt, h]
theorem n1d {c : Int} (h1 : 49 ≤ c) (h2 : c ≤ 57) : nxt 1 c = some 3 := by
  have : c ≠ 48 := by omega
  simp [nxt, this, h1, h2]
theorem n1x {c : Int} (h0 : c ≠ 48) (h : ¬ (49 ≤ c ∧ c ≤ 57)) : nxt 1 c = none := by simp only [nxt]; simp [h0]; omega
theorem n2p {c : Int} (h : c = 46) : nxt 2 c = some 4 := by simp [nxt, h]
theorem n3p {c : Int} (h : c = 46) : nxt 3 c = some 4 := by simp [nxt, h]
theorem n2e {c : Int} (h : c = 101 ∨ c = 69) : nxt 2 c = some 6 := by
  have : c ≠ 46 := by omega
  simp [nxt, this, h]
theorem n3e {c : Int} (h : c = 101 ∨ c = 69) : nxt 3 c = some 6 := by
  have : c ≠ 46 := by omega
  simp [nxt, this, h]
theorem n2x {c : Int} (h0 : c ≠ 46) (h : ¬ (c = 101 ∨ c = 69)) : nxt 2 c = none := by simp [nxt, h0, h]
theorem n3d {c : Int} (h1 : 48 ≤ c) (h2 : c ≤ 57) : nxt 3 c = some 3 := by
  have a : c ≠ 46 := by omega
  have b : ¬ (c = 101 ∨ c = 69) := by omega
  simp [nxt, a, b, h1, h2]
theorem n3x {c : Int} (h0 : c ≠ 46) (h : ¬ (c = 101 ∨ c = 69)) (hd : ¬ (48 ≤ c ∧ c ≤ 57)) : nxt 3 c = none := by
  simp only [nxt]; simp [h0, h]; omega
theorem n4d {c : Int} (h1 : 48 ≤ c) (h2 : c ≤ 57) : nxt 4 c = some 5 := by simp [nxt, h1, h2]
theorem n4x {c : Int} (hd : ¬ (48 ≤ c ∧ c ≤ 57)) : nxt 4 c = none := by simp only [nxt]; simp; omega
theorem n5e {c : Int} (h : c = 101 ∨ c = 69) : nxt 5 c = some 6 := by simp [nxt, h]
theorem n5d {c : Int} (h1 : 48 ≤ c) (h2 : c ≤ 57) : nxt 5 c = some 5 := by
  have b : ¬ (c = 101 ∨ c = 69) := by omega
  simp [nxt, b, h1, h2]
theorem n5x {c : Int} (h : ¬ (c = 101 ∨ c = 69)) (hd : ¬ (48 ≤ c ∧ c ≤ 57)) : nxt 5 c = none := by simp only [nxt]; simp [h]; omega
theorem n6s {c : Int} (h : c = 43 ∨ c = 45) : nxt 6 c = some 7 := by simp [nxt, h]
theorem n6x {c : Int} (h : ¬ (c = 43 ∨ c = 45)) : nxt 6 c = nxt 7 c := by simp [nxt, h]
theorem n7d {c : Int} (h1 : 48 ≤ c) (h2 : c ≤ 57) : nxt 7 c = some 8 := by simp [nxt, h1, h2]
theorem n7x {c : Int} (hd : ¬ (48 ≤ c ∧ c ≤ 57)) : nxt 7 c = none := by simp only [nxt]; simp; omega
theorem n8d {c : Int} (h1 : 48 ≤ c) (h2 : c ≤ 57) : nxt 8 c = some 8 := by simp [nxt, h1, h2]
theorem n8x {c : Int} (hd : ¬ (48 ≤ c ∧ c ≤ 57)) : nxt 8 c = none := by simp only [nxt]; simp; omega

/-- A run of digits is passed over in the states that take them. -/
def Ahead (zs : List Int) (i j : Nat) : Prop :=
  i ≤ j ∧ j ≤ zs.length ∧ (∀ s, s = 3 ∨ s = 5 ∨ s = 8 → Rn zs i s = Rn zs j s) ∧ ∀ k, i ≤ k → k < j → 48 ≤ zs.getD k 0 ∧ zs.getD k 0 ≤ 57

theorem Ahead.refl (zs : List Int) (i : Nat) (h : i ≤ zs.length) : Ahead zs i i := ⟨Nat.le_refl _, h, fun _ _ => rfl, fun k h1 h2 => by omega⟩

theorem Ahead.snoc {zs : List Int} {i j : Nat} (h : Ahead zs i j) (hj : j < zs.length) (h1 : 48 ≤ zs.getD j 0) (h2 : zs.getD j 0 ≤ 57) : Ahead zs i (j + 1) := by
  obtain ⟨a, b, c, d⟩ := h
  refine ⟨by omega, by omega, fun s hs => (c s hs).trans (Rn_step hj ?_), fun k hk1 hk2 => ?_⟩
  · rcases hs with rfl | rfl | rfl
    · exact n3d h1 h2
    · exact n5d h1 h2
    · exact n8d h1 h2
  · by_cases hkj : k < j
    · exact d k hk1 hkj
    · obtain rfl : k = j := by omega
      exact ⟨h1, h2⟩

end Go.Proofs.Qxb6601649a

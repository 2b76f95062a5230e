/-
  FROM A ROW's READING OF ITS ARGUMENTS TO THE PREDICATES OF THE WALKS.
-/
import Derived.Test.Qxb6601469aRows
import Derived.Test.Qxb6601469aBase
import Derived.ProofKit
import Derived.OpenShut
import Derived.ShutString
import Derived.ChangeOld
import Derived.Below
import Derived.Deep.Matrix
namespace Go.Proofs.Qxb6601469a
open Go.ChangeShapes Go.WideShapes Go.ChangeAt Go.RowKit

theorem own : ownKnob Try.prog.godebug = none := by kernel_rfl
theorem laidOut : laidOutB Try.prog = true := by kernel_rfl
theorem cells5 : Try.prog.cellsOf 5 = 1 := by kernel_rfl
theorem cells23 : Try.prog.cellsOf 23 = 1 := by kernel_rfl

theorem plain_addr {w : World} {x : Addr} {v : Value} (h : w.cell? (x.add 0) = some v) : ∃ b off, x = ⟨b, off, none⟩ := by
  obtain ⟨b, off, spot⟩ := x
  have hspot : spot = none := by simpa [Addr.add] using World.cell?_spot h
  subst hspot
  exact ⟨b, off, rfl⟩

theorem rdB_of {w : World} {x : Addr} {len cap : Nat} {zs : List Int} (hl : len ≤ cap) (hz : zs.length = cap) (hcell : ∀ i, i < cap → w.cell? (x.add i) = some (.int .u8 (zs.getD i 0))) :
    RdB w (some x) (zs.take len) ∧ (zs.take len).length = len := by
  have hle : (zs.take len).length = len := by simp; omega
  refine ⟨?_, hle⟩
  by_cases h0 : len = 0
  · exact ⟨0, 0, fun h => by omega, fun i hi => by omega⟩
  · obtain ⟨b, off, rfl⟩ := plain_addr (hcell 0 (by omega))
    refine ⟨b, off, fun _ => rfl, fun i hi => ?_⟩
    rw [hle] at hi
    have := hcell i (by omega)
    rw [Addr.add_lit] at this
    rw [this]
    simp [List.getD, hi]

section
variable {H : Type} {enc : TypeId × Value → H} {W : World} {base : Nat} {held : Bool}

/-- A []byte among the arguments. -/
theorem open_bytes {fuel : Nat} {a : Option Addr} {len cap : Nat} {x : DataW H × List MemPlace} (h : DataW.trod enc Try.prog W base (fun _ => true) held fuel 23 (Value.cells (.slice a len cap)).toList = some x) :
    ∃ zs : List Int, zs.length = len ∧ RdB W a zs ∧ (a = none → cap = 0) ∧ len ≤ cap ∧ cap ≤ maxLen := by
  rcases open_ints Try.underlying23 Try.underlying5 cells5 h with ⟨hcs, _⟩ | ⟨x, l, c, zs, hcs, _, hl, hm, hz, _, hcell, hwz⟩
  · simp [Value.cells] at hcs
    obtain ⟨rfl, rfl, rfl⟩ := hcs
    exact ⟨[], rfl, ⟨0, 0, fun h => by simp at h, fun i hi => by simp at hi⟩, fun _ => rfl, Nat.le_refl _, Nat.zero_le _⟩
  · simp [Value.cells] at hcs
    obtain ⟨rfl, rfl, rfl⟩ := hcs
    have hz' : zs.length = cap := by simpa using hz
    obtain ⟨h1, h2⟩ := rdB_of (w := W) (x := x) hl hz' (fun i hi => hcell i (by omega))
    exact ⟨_, h2, h1, (fun h => by cases h), hl, hm⟩

/-- A [][]byte among the arguments. -/
theorem open_blocks {fuel : Nat} {a : Option Addr} {len cap : Nat} {x : DataW H × List MemPlace} (h : DataW.trod enc Try.prog W base (fun _ => true) held fuel 22 (Value.cells (.slice a len cap)).toList = some x) :
    ∃ Zs : List (List Int), Zs.length = len ∧ RdBB W a Zs ∧ (a = none → cap = 0) ∧ len ≤ cap ∧ cap ≤ maxLen := by
  rcases Deep.open_int_rows Try.underlying22 Try.underlying23 Try.underlying5 cells23 cells5 h with ⟨hcs, _⟩ | ⟨x, l, c, A, L, C, Z, hcs, _, hl, hm, _, hrow⟩
  · simp [Value.cells] at hcs
    obtain ⟨rfl, rfl, rfl⟩ := hcs
    exact ⟨[], rfl, ⟨0, 0, fun h => by simp at h, fun i hi => by simp at hi⟩, fun _ => rfl, Nat.le_refl _, Nat.zero_le _⟩
  · simp [Value.cells] at hcs
    obtain ⟨rfl, rfl, rfl⟩ := hcs
    refine ⟨(List.range len).map fun r => (Z r).take (L r), by simp, ?_, (fun h => by cases h), hl, hm⟩
    by_cases h0 : len = 0
    · exact ⟨0, 0, (fun h => by simp at h; omega), (fun i hi => by simp at hi; omega)⟩
    · obtain ⟨b, off, rfl⟩ := plain_addr (hrow 0 (by omega)).1
      refine ⟨b, off, fun _ => rfl, fun i hi => ?_⟩
      have hi' : i < len := by simpa using hi
      obtain ⟨hc, g1, g2, g3, g4, g5, g6⟩ := hrow i (by omega)
      rw [Addr.add_lit] at hc
      have e : (((List.range len).map fun r => (Z r).take (L r)).getD i []) = (Z i).take (L i) := by simp [List.getD, hi']
      have e2 : ((Z i).take (L i)).length = L i := by simp; omega
      rw [e, e2]
      refine ⟨A i, C i, hc, g5, g1, g2, ?_⟩
      cases hA : A i with
      | none =>
        have := g5 hA
        refine ⟨0, 0, (fun h => by rw [e2] at h; omega), (fun j hj => by rw [e2] at hj; omega)⟩
      | some a' => exact (rdB_of (w := W) (x := a') g1 g3 (g6 a' hA).2).1
end

end Go.Proofs.Qxb6601469a

/-
  FROM A ROW's READING OF ITS ARGUMENTS TO THE PREDICATES OF THE WALKS.
-/
import Derived.Test.Qxb6601649aRows
import Derived.Test.Qxb6601649aBase
import Derived.ProofKit
import Derived.OpenShut
import Derived.ShutString
import Derived.ChangeOld
import Derived.Below
namespace Go.Proofs.Qxb6601649a
open Go.ChangeShapes Go.WideShapes Go.ChangeAt Go.RowKit

theorem own : ownKnob Try.prog.godebug = none := by kernel_rfl
theorem laidOut : laidOutB Try.prog = true := by kernel_rfl
theorem cells5 : Try.prog.cellsOf 5 = 1 := by kernel_rfl

theorem plain_addr {w : World} {x : Addr} {v : Value} (h : w.cell? (x.add 0) = some v) : ∃ b off, x = ⟨b, off, none⟩ := by
  obtain ⟨b, off, spot⟩ := x
  have hspot : spot = none := by simpa [Addr.add] using World.cell?_spot h
  subst hspot
  exact ⟨b, off, rfl⟩

theorem rdB_of {w : World} {x : Addr} {len cap : Nat} {zs : List Int} (hl : len ≤ cap) (hz : zs.length = cap) (hcell : ∀ i, i < cap → w.cell? (x.add i) = some (.int .u8 (zs.getD i 0))) :
    RdB w (some x) (zs.take len) ∧ (zs.take len).length = len := by
  have hle : (zs.take len).length = len := by simp; omega
  refine ⟨?_, hle⟩
  by_cases h0 : len = 0
  · exact ⟨0, 0, fun h => by omega, fun i hi => by omega⟩
  · obtain ⟨b, off, rfl⟩ := plain_addr (hcell 0 (by omega))
    refine ⟨b, off, fun _ => rfl, fun i hi => ?_⟩
    rw [hle] at hi
    have := hcell i (by omega)
    rw [Addr.add_lit] at this
    rw [this]
    simp [List.getD, hi]

section
variable {H : Type} {enc : TypeId × Value → H} {W : World} {base : Nat} {held : Bool}

/-- A []byte among the arguments. -/
theorem open_bytes {fuel : Nat} {a : Option Addr} {len cap : Nat} {x : DataW H × List MemPlace} (h : DataW.trod enc Try.prog W base (fun _ => true) held fuel 22 (Value.cells (.slice a len cap)).toList = some x) :
    ∃ zs : List Int, zs.length = len ∧ RdB W a zs ∧ (a = none → cap = 0) ∧ len ≤ cap ∧ cap ≤ maxLen := by
  rcases open_ints Try.underlying22 Try.underlying5 cells5 h with ⟨hcs, _⟩ | ⟨x, l, c, zs, hcs, _, hl, hm, hz, _, hcell, hwz⟩
  · simp [Value.cells] at hcs
    obtain ⟨rfl, rfl, rfl⟩ := hcs
    exact ⟨[], rfl, ⟨0, 0, fun h => by simp at h, fun i hi => by simp at hi⟩, fun _ => rfl, Nat.le_refl _, Nat.zero_le _⟩
  · simp [Value.cells] at hcs
    obtain ⟨rfl, rfl, rfl⟩ := hcs
    have hz' : zs.length = cap := by simpa using hz
    obtain ⟨h1, h2⟩ := rdB_of (w := W) (x := x) hl hz' (fun i hi => hcell i (by omega))
    exact ⟨_, h2, h1, (fun h => by cases h), hl, hm⟩

end

end Go.Proofs.Qxb6601649a

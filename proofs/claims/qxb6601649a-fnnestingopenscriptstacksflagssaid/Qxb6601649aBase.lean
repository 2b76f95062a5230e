/-
  PLAIN PREDICATES ON MEMORY for the walks of this seat: what a []byte reads as, and how such readings are carried over later worlds. No program is named here.
-/
import Derived.WalkKit
import Derived.WalkSpells
namespace Go.Proofs.Qxb6601649a
open Go.RowKit

theorem hid {p : Prop} (h : p) : Hid p := h

/-- The cells of a list of bytes. -/
def bs (zs : List Int) : List Value := zs.map (Value.int .u8)

theorem bs_length (zs : List Int) : (bs zs).length = zs.length := by simp [bs]
theorem bs_append (a b : List Int) : bs (a ++ b) = bs a ++ bs b := by simp [bs]
theorem bs_get (zs : List Int) (i : Nat) (h : i < zs.length) : (bs zs)[i]? = some (.int .u8 (zs.getD i 0)) := by
  simp [bs, List.getD, h]

/-- A slice (its address, its elements) reads as the bytes zs. -/
def RdB (w : World) (a : Option Addr) (zs : List Int) : Prop :=
  ∃ b off, (0 < zs.length → a = some ⟨b, off, none⟩) ∧ ∀ i, i < zs.length → w.cell? ⟨b, off + i, none⟩ = some (.int .u8 (zs.getD i 0))

theorem grownBy_below {w w' : World} (h : w.grownBy w' none) : Below w.heap.size w w' :=
  ⟨h.os, h.tape, h.output, h.size, fun k hk => h.block k hk (by simp)⟩

theorem below_grownBy {w w' : World} (h : Below w.heap.size w w') : w.grownBy w' none :=
  ⟨h.os, h.tape, h.output, h.size, fun k hk _ => h.block k hk⟩

theorem RdB.below {w w' : World} {a : Option Addr} {zs : List Int} (h : RdB w a zs) (hb : Below w.heap.size w w') : RdB w' a zs := by
  obtain ⟨b, off, h1, h2⟩ := h
  refine ⟨b, off, h1, fun i hi => ?_⟩
  have hc := h2 i hi
  rw [hb.cell (p := ⟨b, off + i, none⟩) (World.block_lt_of_cell? _ _ hc)]
  exact hc

/-- .. over a world in which one block alone may have been written. -/
theorem RdB.grown {w w' : World} {row : Option Nat} {a : Option Addr} {zs : List Int} (h : RdB w a zs) (hg : w.grownBy w' row) (hne : ∀ x, a = some x → some x.block ≠ row) : RdB w' a zs := by
  obtain ⟨b, off, h1, h2⟩ := h
  refine ⟨b, off, h1, fun i hi => ?_⟩
  exact hg.cell (h2 i hi) (by simpa using hne _ (h1 (by omega)))

/-- What the call owns reads as its bytes. -/
theorem own_rd {w : World} {base : Nat} {v : Value} {n : Nat} {zs : List Int} (h : w.ownsRow base 5 1 v n (bs zs)) :
    zs.length = n ∧ ∃ a c, v = .slice a n c ∧ RdB w a zs ∧ n ≤ c ∧ c ≤ maxLen ∧ (a = none → c = 0) ∧ ∀ x, a = some x → base ≤ x.block ∧ x.block < w.heap.size := by
  have hl : zs.length = n := by have := h.1; simpa [bs] using this
  refine ⟨hl, ?_⟩
  rcases h.2 with ⟨rfl, rfl⟩ | ⟨g, cap, cur, rfl, hb, hg, hnc, hcm, hcs, htake⟩
  · exact ⟨none, 0, rfl, ⟨0, 0, fun h0 => by omega, fun i hi => by omega⟩, Nat.le_refl _, Nat.zero_le _, fun _ => rfl, fun x hx => by cases hx⟩
  · refine ⟨some ⟨g, 0, none⟩, cap, rfl, ⟨g, 0, fun _ => rfl, fun i hi => ?_⟩, hnc, hcm, (fun hx => by cases hx), fun x hx => ?_⟩
    · have := h.cellAt i (by omega)
      rw [Nat.zero_add, this, bs_get zs i hi]
    · cases hx
      exact ⟨hb, (Array.getElem?_eq_some_iff.1 hg).1⟩

theorem take_snoc (zs : List Int) (k : Nat) (h : k < zs.length) : zs.take (k + 1) = zs.take k ++ [zs.getD k 0] := by
  rw [List.take_succ_eq_append_getElem h]; simp [List.getD, h]

/-- Copying byte by byte into a row of zeros. -/
theorem fill_step (zs : List Int) (n k : Nat) (hz : zs.length = n) (hk : k < n) :
    (bs (zs.take k ++ List.replicate (n - k) 0)).set k (.int .u8 (zs.getD k 0)) = bs (zs.take (k + 1) ++ List.replicate (n - (k + 1)) 0) := by
  rw [take_snoc zs k (by omega)]
  have e : n - k = (n - (k + 1)) + 1 := by omega
  rw [e, List.replicate_succ]
  simp only [bs, List.map_append, List.map_cons]
  rw [List.set_append_right _ _ (by simp; omega)]
  have : (k - (List.map (Value.int IntKind.u8) (List.take k zs)).length) = 0 := by simp; omega
  rw [this]
  simp

theorem zeros_made (n : Nat) : (madeCells #[Value.int .u8 0] n).toList = bs (List.replicate n 0) := by
  rw [toList_madeCells_one]
  simp [bs]

end Go.Proofs.Qxb6601649a

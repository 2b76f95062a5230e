/-
  THE BUFFER while it is written: full's row, its blocks, last: what grow and append do to them. No walk here.
-/
import Derived.Test.Qxb6601469aLawTwo
namespace Go.Proofs.Qxb6601469a
open Go.RowKit

/-- {full, last}: all of it the call's own from block B on; last's block is none of full's. -/
def Buf (w : World) (B : Nat) (fv : Value) (Zs : List (List Int)) (la : Option Addr) (lz : List Int) (lc : Nat) : Prop :=
  ∃ vs : List Value, w.ownsRow B 23 1 fv Zs.length vs ∧
    (∀ i, i < Zs.length → ∃ ai ci, vs[i]? = some (.slice ai (Zs.getD i []).length ci) ∧ w.ownsRow B 5 1 (.slice ai (Zs.getD i []).length ci) (Zs.getD i []).length (bs (Zs.getD i [])) ∧
      ((Value.slice ai (Zs.getD i []).length ci).ownBlock = none ∨ (Value.slice ai (Zs.getD i []).length ci).ownBlock ≠ (Value.slice la lz.length lc).ownBlock)) ∧
    w.ownsRow B 5 1 (.slice la lz.length lc) lz.length (bs lz)

theorem Buf.rd {w : World} {B : Nat} {fv : Value} {Zs : List (List Int)} {la : Option Addr} {lz : List Int} {lc : Nat} (h : Buf w B fv Zs la lz lc) :
    ∃ fa fc, fv = .slice fa Zs.length fc ∧ RdBB w fa Zs ∧ RdB w la lz := by
  obtain ⟨vs, h1, h2, h3⟩ := h
  have hO : OwnBB w B fv Zs := ⟨vs, h1, fun i hi => by obtain ⟨ai, ci, e, o, _⟩ := h2 i hi; exact ⟨ai, ci, e, o⟩⟩
  obtain ⟨a, c, hv, hr, _⟩ := hO.rd
  exact ⟨a, c, hv, hr, own_rdAt h3⟩

theorem ownBlock_lt_ne {w : World} {B : Nat} {v : Value} {n g2 m c : Nat} {xs : List Value} (h : w.ownsRow B 5 1 v n xs) (hg : w.heap.size ≤ g2) :
    v.ownBlock = none ∨ v.ownBlock ≠ (Value.slice (some ⟨g2, 0, none⟩) m c).ownBlock := by
  cases hv : v.ownBlock with
  | none => exact .inl rfl
  | some k =>
    right
    have := (h.lt k hv).2
    simp only [Value.ownBlock, ne_eq, Option.some.injEq]
    omega

/-- grow, the first two ways. -/
theorem Buf.ab {w w' : World} {B : Nat} {fv : Value} {Zs : List (List Int)} {la : Option Addr} {lz : List Int} {lc c g2 : Nat} (h : Buf w B fv Zs la lz lc) (hB : B ≤ w.heap.size) (hg : w.heap.size ≤ g2)
    (ho : w'.ownsRow w.heap.size 5 1 (.slice (some ⟨g2, 0, none⟩) lz.length c) lz.length (bs lz)) (hk : w.grownBy w' none) : Buf w' B fv Zs (some ⟨g2, 0, none⟩) lz c := by
  obtain ⟨vs, h1, h2, h3⟩ := h
  have hb := grownBy_below hk
  refine ⟨vs, ownsRow_below h1 hb, fun i hi => ?_, ownsRow_weaken ho hB⟩
  obtain ⟨ai, ci, e, o, _⟩ := h2 i hi
  exact ⟨ai, ci, e, ownsRow_below o hb, ownBlock_lt_ne o hg⟩

/-- grow, the third way. -/
theorem Buf.c {w w' : World} {B : Nat} {fv fv' : Value} {Zs : List (List Int)} {vs : List Value} {la : Option Addr} {lz : List Int} {lc c g2 : Nat}
    (h1 : w.ownsRow B 23 1 fv Zs.length vs)
    (h2 : ∀ i, i < Zs.length → ∃ ai ci, vs[i]? = some (.slice ai (Zs.getD i []).length ci) ∧ w.ownsRow B 5 1 (.slice ai (Zs.getD i []).length ci) (Zs.getD i []).length (bs (Zs.getD i [])))
    (h3 : w.ownsRow B 5 1 (.slice la lz.length lc) lz.length (bs lz)) (hB : B ≤ w.heap.size) (hg : w.heap.size ≤ g2)
    (q1 : w'.ownsRow B 23 1 fv' (Zs.length + 1) (vs ++ [.slice la lz.length lc])) (q4 : w'.ownsRow w.heap.size 5 1 (.slice (some ⟨g2, 0, none⟩) 0 c) 0 []) (hk : w.grownBy w' fv.ownBlock) :
    Buf w' B fv' (Zs ++ [lz]) (some ⟨g2, 0, none⟩) [] c := by
  have hvl : vs.length = Zs.length := by have := h1.1; omega
  refine ⟨vs ++ [.slice la lz.length lc], by rw [List.length_append]; exact q1, fun i hi => ?_, ownsRow_weaken q4 hB⟩
  rw [List.length_append, List.length_singleton] at hi
  by_cases hik : i < Zs.length
  · obtain ⟨ai, ci, e, o⟩ := h2 i hik
    have e2 : (Zs ++ [lz]).getD i [] = Zs.getD i [] := by simp [List.getD, List.getElem?_append_left hik]
    rw [e2]
    exact ⟨ai, ci, by rw [List.getElem?_append_left (by omega)]; exact e, o.kept hk (rows_apart o h1), ownBlock_lt_ne o hg⟩
  · obtain rfl : i = Zs.length := by omega
    have e2 : (Zs ++ [lz]).getD Zs.length [] = lz := by simp [List.getD]
    rw [e2]
    exact ⟨la, lc, by rw [List.getElem?_append_right (by omega)]; simp [hvl], h3.kept hk (rows_apart h3 h1), ownBlock_lt_ne h3 hg⟩

/-- One byte more in last, within its capacity. -/
theorem Buf.app {w w' : World} {B : Nat} {fv : Value} {Zs : List (List Int)} {g : Nat} {lz : List Int} {lc : Nat} {z : Int} {o : Obj} (h : Buf w B fv Zs (some ⟨g, 0, none⟩) lz lc)
    (ho : w'.ownsRow B 5 1 (.slice (some ⟨g, 0, none⟩) (lz.length + 1) lc) (lz.length + 1) (bs lz ++ [.int .u8 z])) (hk : (w.alloc o).grownBy w' (some g)) : Buf w' B fv Zs (some ⟨g, 0, none⟩) (lz ++ [z]) lc := by
  obtain ⟨vs, h1, h2, h3⟩ := h
  refine ⟨vs, (h1.alloc o).kept hk ?_, fun i hi => ?_, ?_⟩
  · have := rows_apart h3 h1
    simp only [Value.ownBlock] at this
    rcases this with h | h
    · cases h
    · exact .inr (fun e => h e.symm)
  · obtain ⟨ai, ci, e, ow, hne⟩ := h2 i hi
    refine ⟨ai, ci, e, (ow.alloc o).kept hk ?_, ?_⟩
    · simpa [Value.ownBlock] using hne
    · simpa [Value.ownBlock] using hne
  · rw [List.length_append, List.length_singleton, bs_append]
    exact ho

/-- How the capacity of last hangs on what has been written. -/
def Cap (nf k lc : Nat) : Prop :=
  (nf = 0 ∧ k = 0 ∧ lc = 0) ∨ (nf = 0 ∧ Pow lc ∧ lc ≤ 32768 ∧ 0 < k ∧ k ≤ lc ∧ (lc = 1024 ∨ lc < 2 * k)) ∨ (0 < nf ∧ lc = 32768 ∧ nf * 32768 < k ∧ k ≤ nf * 32768 + 32768)

theorem Cap.room {nf k lc : Nat} (h : Cap nf k lc) (hk : k ≠ nf * 32768 + lc) : Cap nf (k + 1) lc := by
  unfold Cap Pow at h ⊢
  omega

theorem Cap.a {nf k : Nat} (h : Cap nf k 0) : nf = 0 ∧ k = 0 ∧ Cap nf (k + 1) 1024 := by
  unfold Cap Pow at h ⊢
  omega

theorem Cap.b {nf k lc : Nat} (h : Cap nf k lc) (h0 : 0 < lc) (hn : nf = 0) (hc : lc < 32768) (hk : k = nf * 32768 + lc) : Cap nf (k + 1) (2 * lc) := by
  unfold Cap Pow at h ⊢
  omega

theorem Cap.c {nf k lc : Nat} (h : Cap nf k lc) (h0 : 0 < lc) (hc : nf = 0 → ¬ lc < 32768) (hk : k = nf * 32768 + lc) : lc = 32768 ∧ Cap (nf + 1) (k + 1) 32768 := by
  unfold Cap Pow at h ⊢
  omega

theorem Cap.blocks {nf k lc : Nat} (h : Cap nf k lc) (h0 : 0 < k) : nf = (k - 1) / 32768 := by
  unfold Cap at h
  omega

end Go.Proofs.Qxb6601469a

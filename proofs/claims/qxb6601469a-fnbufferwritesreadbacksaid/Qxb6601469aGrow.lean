/-
  THE WALKS of grow (21) and ZZGrow (18).
-/
import Derived.Test.Qxb6601469aText
import Derived.Test.Qxb6601469aReads
import Derived.Deep.LoopGhost
import Derived.Deep.RegionLaw
import Derived.Deep.AppendLies
import Derived.BigRegion
namespace Go.Proofs.Qxb6601469a
open Go.RowKit

/-- The block of a textBuffer. -/
def Box (w : World) (p : Nat) (fv lv : Value) : Prop := w.heap[p]? = some (.cells #[fv, lv] 40 (0, 0))

theorem Box.c0 {w : World} {p : Nat} {fv lv : Value} (h : Box w p fv lv) : w.cell? ⟨p, 0, none⟩ = some fv := by simp [World.cell?, show w.heap[p]? = _ from h]
theorem Box.c1 {w : World} {p : Nat} {fv lv : Value} (h : Box w p fv lv) : w.cell? ⟨p, 1, none⟩ = some lv := by simp [World.cell?, show w.heap[p]? = _ from h]
theorem Box.f0 {w : World} {p : Nat} {fv lv : Value} (h : Box w p fv lv) : w.frozen? ⟨p, 0, none⟩ = false := by simp [World.frozen?, show w.heap[p]? = _ from h]
theorem Box.f1 {w : World} {p : Nat} {fv lv : Value} (h : Box w p fv lv) : w.frozen? ⟨p, 1, none⟩ = false := by simp [World.frozen?, show w.heap[p]? = _ from h]
theorem Box.lt {w : World} {p : Nat} {fv lv : Value} (h : Box w p fv lv) : p < w.heap.size := lt_of_block h

/-- Blocks other than p and row are as they were. -/
structure Kept2 (w w' : World) (p : Nat) (row : Option Nat) : Prop where
  os : w'.os = w.os
  tape : w'.tape = w.tape
  output : w'.output = w.output
  size : w.heap.size ≤ w'.heap.size
  block : ∀ k, k < w.heap.size → k ≠ p → some k ≠ row → w'.heap[k]? = w.heap[k]?

/-- grow, the third way. -/
def GrowC (w : World) (base p : Nat) (fv : Value) (nf : Nat) (vs : List Value) (lv : Value) (e : Ending) (w' : World) : Prop :=
  e = .returned (.tuple #[]) ∧ ∃ g cap g2, Box w' p (.slice (some ⟨g, 0, none⟩) (nf + 1) cap) (.slice (some ⟨g2, 0, none⟩) 0 32768) ∧
    w'.ownsRow base 23 1 (.slice (some ⟨g, 0, none⟩) (nf + 1) cap) (nf + 1) (vs ++ [lv]) ∧ (fv.ownBlock = some g ∨ w.heap.size ≤ g) ∧
    w.heap.size ≤ g2 ∧ w'.ownsRow w.heap.size 5 1 (.slice (some ⟨g2, 0, none⟩) 0 32768) 0 [] ∧ Kept2 w w' p fv.ownBlock

theorem Box.app {w w1 : World} {p : Nat} {fv lv : Value} {o : Obj} {row : Option Nat} (h : Box w p fv lv) (hg : ((w.alloc o).drew).grownBy w1 row) (hne : row ≠ some p) : Box w1 p fv lv := by
  have hlt := h.lt
  have e := hg.block p (by show p < (w.alloc o).heap.size; simp; omega) (fun e => hne e.symm)
  unfold Box
  rw [e]
  show (w.alloc o).heap[p]? = _
  rw [Below.heap_alloc w o p hlt]
  exact h

theorem Box.keep {w w1 : World} {p : Nat} {fv lv : Value} {row : Option Nat} (h : Box w p fv lv) (hg : w.grownBy w1 row) (hne : row ≠ some p) : Box w1 p fv lv := by
  unfold Box
  rw [hg.block p h.lt (fun e => hne e.symm)]
  exact h

theorem Box.set0 {w : World} {p : Nat} {fv lv u : Value} (h : Box w p fv lv) : Box (w.setCell ⟨p, 0, none⟩ u) p u lv := heap_setCell_same w p 0 #[fv, lv] 40 u h
theorem Box.set1 {w : World} {p : Nat} {fv lv u : Value} (h : Box w p fv lv) : Box (w.setCell ⟨p, 1, none⟩ u) p fv u := heap_setCell_same w p 1 #[fv, lv] 40 u h

theorem growc_end {w w1 w3 : World} {base p : Nat} {fv lv : Value} {nf g cap g2 : Nat} {vs : List Value} {o : Obj} (hB : Box w p fv lv) (hp : fv.ownBlock ≠ some p)
    (hown1 : w1.ownsRow base 23 1 (.slice (some ⟨g, 0, none⟩) (nf + 1) cap) (nf + 1) (vs ++ [lv])) (hgrow : ((w.alloc o).drew).grownBy w1 fv.ownBlock) (hat : fv.ownBlock = some g ∨ g = w.heap.size + 1)
    (hg2 : g2 = w1.heap.size) (hown3 : w3.ownsRow g2 5 1 (.slice (some ⟨g2, 0, none⟩) 0 32768) 0 [])
    (hgrow3 : (w1.setCell ⟨p, 0, none⟩ (.slice (some ⟨g, 0, none⟩) (nf + 1) cap)).grownBy w3 none) :
    GrowC w base p fv nf vs lv (.returned (.tuple #[])) (w3.setCell ⟨p, 1, none⟩ (.slice (some ⟨g2, 0, none⟩) 0 32768)) := by
  have hlt := hB.lt
  have hs1 : w.heap.size + 1 ≤ w1.heap.size := by have := hgrow.size; simpa using this
  have hs3 : w1.heap.size ≤ w3.heap.size := by have := hgrow3.size; simpa using this
  have hgp : g ≠ p := by
    rcases hat with h | h
    · intro e; rw [e] at h; exact hp h
    · omega
  have hb1 := (hB.app hgrow hp).set0 (u := .slice (some ⟨g, 0, none⟩) (nf + 1) cap)
  have hb3 := hb1.keep hgrow3 (by simp)
  refine ⟨rfl, g, cap, g2, hb3.set1, ?_, ?_, by omega, ?_, ?_⟩
  · refine ownsRow_setCell_other ?_ (by simp [Value.ownBlock, hgp]) _
    refine World.ownsRow.kept ?_ hgrow3 (by simp [Value.ownBlock])
    exact ownsRow_setCell_other hown1 (by simp [Value.ownBlock, hgp]) _
  · rcases hat with h | h
    · exact .inl h
    · exact .inr (by omega)
  · refine ownsRow_weaken (ownsRow_setCell_other hown3 (by simp [Value.ownBlock]; omega) _) (by omega)
  · refine ⟨?_, ?_, ?_, by simp; omega, ?_⟩
    · exact hgrow3.os.trans hgrow.os
    · exact hgrow3.tape.trans hgrow.tape
    · exact hgrow3.output.trans hgrow.output
    · intro k hk hkp hkr
      rw [Below.heap_setCell _ _ _ _ (by simpa using hkp), hgrow3.block k (by simp; omega) (by simp), Below.heap_setCell _ _ _ _ (by simpa using hkp), hgrow.block k (by show k < (w.alloc o).heap.size; simp; omega) hkr]
      exact Below.heap_alloc w o k hk

set_option maxHeartbeats 1000000 in
theorem grow_c (p base : Nat) (fa : Option Addr) (nf fc : Nat) (la : Option Addr) (ln lc : Nat) (vs : List Value) (w : World) (hB : Box w p (.slice fa nf fc) (.slice la ln lc))
    (hown : w.ownsRow base 23 1 (.slice fa nf fc) nf vs) (hbase : base ≤ w.heap.size) (hp : (Value.slice fa nf fc).ownBlock ≠ some p) (h0 : 0 < lc) (h1 : nf = 0 → 32768 ≤ lc) (hn : nf ≤ 65536) (hlc : lc ≤ 1048576) :
    Calls Try.prog 21 #[.pointer (some ⟨p, 0, none⟩)] w (GrowC w base p (.slice fa nf fc) nf vs (.slice la ln lc)) := by
  obtain ⟨i0, hi0, hz0, hz1, hz2⟩ := info_parts info23
  have c0 := hB.c0
  have c1 := hB.c1
  have f0 := hB.f0
  have f1 := hB.f1
  have e0 : ((lc : Int) == 0) = false := by simp; omega
  have hpl := hB.lt
  have c0a : ∀ o, (w.alloc o).cell? ⟨p, 0, none⟩ = some (.slice fa nf fc) := fun o => (((Below.refl _ w).alloc (Nat.le_refl _) o).cell (p := ⟨p, 0, none⟩) hpl).trans c0
  have c1a : ∀ o, (w.alloc o).cell? ⟨p, 1, none⟩ = some (.slice la ln lc) := fun o => (((Below.refl _ w).alloc (Nat.le_refl _) o).cell (p := ⟨p, 1, none⟩) hpl).trans c1
  obtain ⟨i5, hi5, h50, h51, h52⟩ := info_parts info5
  go_enter Try.func21, Try.ntmps21
  by_cases hz : nf = 0
  · have e1 : ((nf : Int) == 0) = true := by simp; omega
    have e2 : ¬ (lc : Int) < 32768 := by have := h1 hz; omega
    have HZ := hid hz
    clear hz h1
    go_wp2
    go_region_law ((refine step_append_lies _ (by rfl) (.tmp 6) (.tmp 11) 22 (by rfl) base 23 i0 (.slice none 0 0) 1 24 Try.underlying22 hi0 hz0 hz1 hz2 rfl (by omega) (.slice fa nf fc) nf vs (by simp [Act.eval]) ((hown.alloc _).drew) ⟨w.heap.size, 0, none⟩ 1 1 [.slice la ln lc] (by simp [Act.eval]) (by rfl) (World.news_of_block (cs := #[.slice la ln lc]) (t := 23) (fr := (0, 0)) (heap_alloc_new w _)) (by simp [Value.oneCell']) (by omega) (by unfold maxLen; omega) (by omega) (by simp; omega) (w.heap.size + 1) (by simp) ?_; intro g cap w1 hown1 hgrow hat hlt; have hb1 := hB.app hgrow hp; have q0 := hb1.c0; have q1 := hb1.f0))
    all_goals
      have hb2 := hb1.set0 (u := .slice (some ⟨g, 0, none⟩) (nf + 1) cap)
      have HB := hid hb2
      clear q0 q1 c0a c1a c0 c1 f0 f1 hb1 hb2
      go_wp2_with (at_make; refine wpList_make_own _ rfl _ _ 23 rfl w1.heap.size 5 i5 (.int .u8 0) 1 Try.underlying23 hi5 h50 h51 _ _ _ 32768 rfl rfl rfl (by rw [h52]; omega) (by unfold maxLen; omega) (by simp) ?_)
      intro w3 hown3 hgrow3
      have b3 := HB.out.keep hgrow3 (by simp)
      have r1 := b3.c1
      have r2 := b3.f1
      have HE := hid (growc_end hB hp hown1 hgrow hat rfl hown3 hgrow3)
      clear hown3 hgrow3 hown1 hgrow hat hown
      go_wp2
      go_end0
      exact HE.out
  · have e1 : ((nf : Int) == 0) = false := by simp; omega
    clear hz h1
    go_wp2
    go_region_law ((refine step_append_lies _ (by rfl) (.tmp 6) (.tmp 11) 22 (by rfl) base 23 i0 (.slice none 0 0) 1 24 Try.underlying22 hi0 hz0 hz1 hz2 rfl (by omega) (.slice fa nf fc) nf vs (by simp [Act.eval]) ((hown.alloc _).drew) ⟨w.heap.size, 0, none⟩ 1 1 [.slice la ln lc] (by simp [Act.eval]) (by rfl) (World.news_of_block (cs := #[.slice la ln lc]) (t := 23) (fr := (0, 0)) (heap_alloc_new w _)) (by simp [Value.oneCell']) (by omega) (by unfold maxLen; omega) (by omega) (by simp; omega) (w.heap.size + 1) (by simp) ?_; intro g cap w1 hown1 hgrow hat hlt; have hb1 := hB.app hgrow hp; have q0 := hb1.c0; have q1 := hb1.f0))
    all_goals
      have hb2 := hb1.set0 (u := .slice (some ⟨g, 0, none⟩) (nf + 1) cap)
      have HB := hid hb2
      clear q0 q1 c0a c1a c0 c1 f0 f1 hb1 hb2
      go_wp2_with (at_make; refine wpList_make_own _ rfl _ _ 23 rfl w1.heap.size 5 i5 (.int .u8 0) 1 Try.underlying23 hi5 h50 h51 _ _ _ 32768 rfl rfl rfl (by rw [h52]; omega) (by unfold maxLen; omega) (by simp) ?_)
      intro w3 hown3 hgrow3
      have b3 := HB.out.keep hgrow3 (by simp)
      have r1 := b3.c1
      have r2 := b3.f1
      have HE := hid (growc_end hB hp hown1 hgrow hat rfl hown3 hgrow3)
      clear hown3 hgrow3 hown1 hgrow hat hown
      go_wp2
      go_end0
      exact HE.out

/-- grow, the first two ways: last moves to a new block, with room. -/
def GrowAB (w : World) (p : Nat) (fv : Value) (zs : List Int) (c : Nat) (e : Ending) (w' : World) : Prop :=
  e = .returned (.tuple #[]) ∧ ∃ g2, w.heap.size ≤ g2 ∧ Box w' p fv (.slice (some ⟨g2, 0, none⟩) zs.length c) ∧ w'.ownsRow w.heap.size 5 1 (.slice (some ⟨g2, 0, none⟩) zs.length c) zs.length (bs zs) ∧ Kept2 w w' p none

theorem growab_end {w w1 : World} {p : Nat} {fv lv : Value} {g2 : Nat} {zs : List Int} {c : Nat} (hB : Box w p fv lv) (hg2 : w.heap.size ≤ g2) (hown1 : w1.ownsRow w.heap.size 5 1 (.slice (some ⟨g2, 0, none⟩) zs.length c) zs.length (bs zs))
    (hgrow : w.grownBy w1 none) : GrowAB w p fv zs c (.returned (.tuple #[])) (w1.setCell ⟨p, 1, none⟩ (.slice (some ⟨g2, 0, none⟩) zs.length c)) := by
  have hlt := hB.lt
  have hsz := hgrow.size
  refine ⟨rfl, g2, hg2, (hB.keep hgrow (by simp)).set1, ownsRow_setCell_other hown1 (by simp [Value.ownBlock]; omega) _, ⟨hgrow.os, hgrow.tape, hgrow.output, by simp; omega, ?_⟩⟩
  intro k hk hkp _
  rw [Below.heap_setCell _ _ _ _ (by simpa using hkp), hgrow.block k hk (by simp)]

set_option maxHeartbeats 1000000 in
theorem grow_a (p : Nat) (fv : Value) (la : Option Addr) (w : World) (hB : Box w p fv (.slice la 0 0)) :
    Calls Try.prog 21 #[.pointer (some ⟨p, 0, none⟩)] w (GrowAB w p fv [] 1024) := by
  obtain ⟨i5, hi5, h50, h51, h52⟩ := info_parts info5
  have c1 := hB.c1
  have HB := hid hB
  clear hB
  go_enter Try.func21, Try.ntmps21
  go_wp2_with (at_make; refine wpList_make_own _ rfl _ _ 23 rfl w.heap.size 5 i5 (.int .u8 0) 1 Try.underlying23 hi5 h50 h51 _ _ _ 1024 rfl rfl rfl (by rw [h52]; omega) (by unfold maxLen; omega) (Nat.le_refl _) ?_)
  intro w1 hown hgrow
  have b1 := HB.out.keep hgrow (by simp)
  have r1 := b1.c1
  have r2 := b1.f1
  have HE := hid (growab_end (zs := []) HB.out (Nat.le_refl _) hown hgrow)
  clear hown hgrow
  go_wp2
  go_end0
  exact HE.out

/-- append within the capacity, as one step of a region that draws. -/
theorem step_append_fits {P : Program} {ops : Array Oper} {o : Oper} {a : Act} {w : World} {K : Act → World → Prop} {Q : Exit → Act → World → Prop} {E : Prop}
    (hg : o.guard = none) (s x : Operand) (t : TypeId) (hop : o.op = Op.call { callee := Callee.builtin Builtin.append, args := #[s, x], argTypes := #[t, t] })
    (base : Nat) (e : TypeId) (i : TypeInfo) (size : Nat) (h1 : P.underlying t = some (.slice e)) (h2 : P.info? e = some i) (h4 : i.size = size)
    (g k cap : Nat) (xs : List Value) (hs : a.eval s = .slice (some ⟨g, 0, none⟩) k cap) (hown : w.ownsRow base e size (.slice (some ⟨g, 0, none⟩) k cap) k xs) (ad : Addr) (m c : Nat) (news : List Value) (hx : a.eval x = .slice (some ad) m c) (hn : news.length = m * size)
    (hc : ∀ j u, news[j]? = some u → w.cell? (ad.add j) = some u) (h1c : ∀ u ∈ news, u.oneCell' = true) (b1 : k + m ≤ cap)
    (hK : ∀ w', w'.ownsRow base e size (.slice (some ⟨g, 0, none⟩) (k + m) cap) (k + m) (xs ++ news) → w.grownBy w' (some g) → K (a.put o.dst (.slice (some ⟨g, 0, none⟩) (k + m) cap)) w') :
    if Region.wanted o (yielded ops a.tmps) = true then Oper.wp P o a w K Q else E := by
  have hw : Region.wanted o (yielded ops a.tmps) = true := by simp [Region.wanted, hg]
  rw [if_pos hw]
  obtain ⟨w', hrun, r1, r2⟩ := run_append_fits (P := P) w base t o.type e i size h1 h2 h4 g k cap xs hown ad m c news hn hc h1c b1
  unfold Oper.wp
  simp [execOp, hop, resolve, invoke, builtin, hs, hx, hrun, Result.andThen]
  exact hK w' r1 r2

theorem run_make23 (c : Nat) (h : c ≤ 1048576) (W : World) : (Instr.makeSlice 23 (.int .i64 0) (.int .i64 (2 * (c : Int)))).run Try.prog W =
    .ok (.slice (some ⟨W.heap.size, 0, none⟩) 0 (2 * c)) (W.alloc (.cells (madeCells #[.int .u8 0] (2 * c)) 5)) := by
  obtain ⟨i5, hi5, h50, h51, h52⟩ := info_parts info5
  have := run_make (P := Try.prog) W 23 5 i5 (.int .u8 0) Try.underlying23 hi5 h50 .i64 .i64 0 (2 * (c : Int)) (Int.le_refl _) (by omega) (by rw [h52]; omega) (by omega)
  have e : (2 * (c : Int)).toNat = 2 * c := by omega
  rw [this, h51, e, Nat.mul_one]
  rfl

end Go.Proofs.Qxb6601469a

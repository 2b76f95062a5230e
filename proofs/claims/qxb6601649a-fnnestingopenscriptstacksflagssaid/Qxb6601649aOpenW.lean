/-
  THE WALKS of nesting.open (25), ZZOpen (17), levelsBeyondWord (18), levelIsObject (19).
-/
import Derived.Test.Qxb6601649aBools
import Derived.Test.Qxb6601649aWord
import Derived.BigRegion
import Derived.BigQuiet
namespace Go.Proofs.Qxb6601649a
open Go.RowKit

/-- The block of a nesting. -/
def Box (w : World) (p : Nat) (d o : Int) (dv : Value) : Prop := w.heap[p]? = some (.cells #[.int .i64 d, .int .u64 o, dv] 44 (0, 0))

theorem Box.c0 {w : World} {p : Nat} {d o : Int} {dv : Value} (h : Box w p d o dv) : w.cell? ⟨p, 0, none⟩ = some (.int .i64 d) := by simp [World.cell?, show w.heap[p]? = _ from h]
theorem Box.c1 {w : World} {p : Nat} {d o : Int} {dv : Value} (h : Box w p d o dv) : w.cell? ⟨p, 1, none⟩ = some (.int .u64 o) := by simp [World.cell?, show w.heap[p]? = _ from h]
theorem Box.c2 {w : World} {p : Nat} {d o : Int} {dv : Value} (h : Box w p d o dv) : w.cell? ⟨p, 2, none⟩ = some dv := by simp [World.cell?, show w.heap[p]? = _ from h]
theorem Box.fr {w : World} {p : Nat} {d o : Int} {dv : Value} (h : Box w p d o dv) (j : Nat) : w.frozen? ⟨p, j, none⟩ = false := frozen_of_row w p j _ 44 h
theorem Box.lt {w : World} {p : Nat} {d o : Int} {dv : Value} (h : Box w p d o dv) : p < w.heap.size := lt_of_block h
theorem Box.s0 {w : World} {p : Nat} {d o d' : Int} {dv : Value} (h : Box w p d o dv) : Box (w.setCell ⟨p, 0, none⟩ (.int .i64 d')) p d' o dv := heap_setCell_same w p 0 _ 44 _ h
theorem Box.s1 {w : World} {p : Nat} {d o o' : Int} {dv : Value} (h : Box w p d o dv) : Box (w.setCell ⟨p, 1, none⟩ (.int .u64 o')) p d o' dv := heap_setCell_same w p 1 _ 44 _ h
theorem Box.s2 {w : World} {p : Nat} {d o : Int} {dv dv' : Value} (h : Box w p d o dv) : Box (w.setCell ⟨p, 2, none⟩ dv') p d o dv' := heap_setCell_same w p 2 _ 44 _ h
theorem Box.keep {w w1 : World} {p : Nat} {d o : Int} {dv : Value} {row : Option Nat} (h : Box w p d o dv) (hg : w.grownBy w1 row) (hne : row ≠ some p) : Box w1 p d o dv := by
  unfold Box
  rw [hg.block p h.lt (fun e => hne e.symm)]
  exact h
theorem Box.alloc {w : World} {p : Nat} {d o : Int} {dv : Value} (h : Box w p d o dv) (ob : Obj) : Box (w.alloc ob) p d o dv := by
  unfold Box
  rw [Below.heap_alloc w ob p h.lt]
  exact h

/-- A row of bools does not lie in the nesting's block. -/
theorem Box.apart {w : World} {p : Nat} {d o : Int} {dv : Value} {B : Nat} {v : Value} {n : Nat} {xs : List Value} (h : Box w p d o dv) (ho : w.ownsRow B 4 1 v n xs) : v.ownBlock ≠ some p := by
  rcases ho.2 with ⟨rfl, _⟩ | ⟨g, cap, cur, rfl, _, hg, _⟩
  · simp [Value.ownBlock]
  · simp only [Value.ownBlock, ne_eq, Option.some.injEq]
    intro e
    rw [e, show w.heap[p]? = _ from h] at hg
    simp at hg

structure Kept2 (w w' : World) (p : Nat) (row : Option Nat) : Prop where
  os : w'.os = w.os
  tape : w'.tape = w.tape
  output : w'.output = w.output
  size : w.heap.size ≤ w'.heap.size
  block : ∀ k, k < w.heap.size → k ≠ p → some k ≠ row → w'.heap[k]? = w.heap[k]?

/-- What open leaves. -/
def OpenP (w : World) (p : Nat) (ok : Bool) (d o : Int) (dv : Value) (row : Option Nat) (R : World → Prop) (e : Ending) (w' : World) : Prop :=
  e = .returned (.bool ok) ∧ Box w' p d o dv ∧ Kept2 w w' p row ∧ R w'

set_option maxHeartbeats 1000000 in
theorem open_no (p : Nat) (d : Nat) (o : Int) (dv : Value) (f : Bool) (w : World) (hB : Box w p d o dv) (hd : d = 10000) :
    Calls Try.prog 25 #[.pointer (some ⟨p, 0, none⟩), .bool f] w fun e w' => e = .returned (.bool false) ∧ w' = w := by
  have c0 := hB.c0
  have q1 : ((d : Int) == 10000) = true := by rw [beq_iff_eq]; omega
  clear hd
  go_enter Try.func25, Try.ntmps25
  go_wp2
  go_ret
  exact ⟨rfl, rfl⟩

theorem word_end {w : World} {p : Nat} {d o d' o' : Int} {dv : Value} (hB : Box w p d o dv) (n : Nat) :
    OpenP w p true d' o' dv none (fun _ => True) (.returned (.bool true)) (((w.setCell ⟨p, 1, none⟩ (.int .u64 o')).setCell ⟨p, 0, none⟩ (.int .i64 d')).drewN n) := by
  have hb := (hB.s1 (o' := o')).s0 (d' := d')
  refine ⟨rfl, hb, ⟨rfl, rfl, rfl, ?_, ?_⟩, trivial⟩
  · show w.heap.size ≤ ((w.setCell _ _).setCell _ _).heap.size
    simp
  · intro k _ hk _
    show ((w.setCell _ _).setCell _ _).heap[k]? = _
    rw [Below.heap_setCell _ _ _ _ (by simpa using hk), Below.heap_setCell _ _ _ _ (by simpa using hk)]

set_option maxHeartbeats 1000000 in
theorem open_set (p : Nat) (d : Nat) (o : Int) (dv : Value) (w : World) (hB : Box w p d o dv) (hd : d < 64) :
    Calls Try.prog 25 #[.pointer (some ⟨p, 0, none⟩), .bool true] w (OpenP w p true (d + 1) (bits BinOp.or IntKind.u64 o (IntKind.u64.wrap (2 ^ d))) dv none (fun _ => True)) := by
  have c0 := hB.c0
  have c1 := hB.c1
  have f0 := hB.fr 0
  have f1 := hB.fr 1
  have q1 : ((d : Int) == 10000) = false := by rw [beq_eq_false_iff_ne]; omega
  have q2 : (d : Int) < 64 := by omega
  have HE := hid (word_end (d' := (d : Int) + 1) (o' := bits BinOp.or IntKind.u64 o (IntKind.u64.wrap (2 ^ d))) hB 1)
  clear hd
  go_enter Try.func25, Try.ntmps25
  go_wp2
  go_region
  all_goals
    go_wp2
    go_ret
    exact HE.out

set_option maxHeartbeats 1000000 in
theorem open_clear (p : Nat) (d : Nat) (o : Int) (dv : Value) (w : World) (hB : Box w p d o dv) (hd : d < 64) :
    Calls Try.prog 25 #[.pointer (some ⟨p, 0, none⟩), .bool false] w (OpenP w p true (d + 1) (bits BinOp.andNot IntKind.u64 o (IntKind.u64.wrap (2 ^ d))) dv none (fun _ => True)) := by
  have c0 := hB.c0
  have c1 := hB.c1
  have f0 := hB.fr 0
  have f1 := hB.fr 1
  have q1 : ((d : Int) == 10000) = false := by rw [beq_eq_false_iff_ne]; omega
  have q2 : (d : Int) < 64 := by omega
  have HE := hid (word_end (d' := (d : Int) + 1) (o' := bits BinOp.andNot IntKind.u64 o (IntKind.u64.wrap (2 ^ d))) hB 1)
  clear hd
  go_enter Try.func25, Try.ntmps25
  go_wp2
  go_region
  all_goals
    go_wp2
    go_ret
    exact HE.out

theorem deep_end {w w1 : World} {p : Nat} {d o d' : Int} {dv v' : Value} {B m : Nat} {xs ys : List Value} {ob : Obj} (hB : Box w p d o dv) (ho : w.ownsRow B 4 1 dv m xs) (ho1 : w1.ownsRow B 4 1 v' (m + 1) ys)
    (hg : (w.alloc ob).grownBy w1 dv.ownBlock) :
    OpenP w p true d' o v' dv.ownBlock (fun w' => w'.ownsRow B 4 1 v' (m + 1) ys) (.returned (.bool true)) ((w1.setCell ⟨p, 2, none⟩ v').setCell ⟨p, 0, none⟩ (.int .i64 d')) := by
  have hb1 : Box w1 p d o dv := (hB.alloc ob).keep hg (hB.apart ho)
  have hne := hb1.apart ho1
  have hsz := hg.size
  refine ⟨rfl, hb1.s2.s0, ⟨hg.os, hg.tape, hg.output, ?_, ?_⟩, ?_⟩
  · simp at hsz ⊢
    omega
  · intro k hk hkp hkr
    rw [Below.heap_setCell _ _ _ _ (by simpa using hkp), Below.heap_setCell _ _ _ _ (by simpa using hkp), hg.block k (by simp; omega) hkr]
    exact Below.heap_alloc w ob k hk
  · exact ownsRow_setCell_other (ownsRow_setCell_other ho1 hne _) hne _

theorem oneCellB (f : Bool) : ∀ u ∈ [Value.bool f], u.oneCell' = true := by
  intro u hu; simp at hu; subst hu; rfl

/-- What open leaves beyond the word. -/
def OpenD (w : World) (p B m : Nat) (d o : Int) (row : Option Nat) (ys : List Value) (e : Ending) (w' : World) : Prop :=
  ∃ v', OpenP w p true d o v' row (fun w' => w'.ownsRow B 4 1 v' (m + 1) ys) e w'

set_option maxHeartbeats 1000000 in
theorem open_deep (p : Nat) (d : Nat) (o : Int) (a : Option Addr) (m c B : Nat) (xs : List Value) (f : Bool) (w : World) (hB : Box w p d o (.slice a m c)) (hd : 64 ≤ d) (hd2 : d < 10000) (hm : m ≤ 10000)
    (hown : w.ownsRow B 4 1 (.slice a m c) m xs) (hb : B ≤ w.heap.size) :
    Calls Try.prog 25 #[.pointer (some ⟨p, 0, none⟩), .bool f] w (OpenD w p B m (d + 1) o (Value.slice a m c).ownBlock (xs ++ [.bool f])) := by
  obtain ⟨i0, hi0, hz0, hz1, hz2⟩ := info_parts info4
  have c0 := hB.c0
  have c2 := hB.c2
  have q1 : ((d : Int) == 10000) = false := by rw [beq_eq_false_iff_ne]; omega
  have q2 : (64 : Int) ≤ d := by omega
  have q3 : (d : Int) ≤ 10000 := by omega
  clear hd hd2
  go_enter Try.func25, Try.ntmps25
  go_wp2_with (at_builtin; refine wpList_append_own _ rfl _ _ 29 rfl B 4 i0 (.bool false) 1 1 Try.underlying29 hi0 hz0 hz1 hz2 rfl (by decide) _ _ _ rfl (hown.alloc _) ⟨w.heap.size, 0, none⟩ 1 1 [.bool f] rfl rfl (cell_one_new _ _ _) (oneCellB f) (by unfold maxLen; omega) (by omega) (by simp; omega) ?_)
  intro v' w1 hown1 hgrow _
  have hb1 := (hB.alloc _).keep hgrow (hB.apart hown)
  have r0 := hb1.c0
  have r2 := hb1.c2
  have g0 := hb1.fr 0
  have g2 := hb1.fr 2
  obtain ⟨a', c', rfl⟩ : ∃ a' c', v' = .slice a' (m + 1) c' := by
    rcases hown1.2 with ⟨_, h⟩ | ⟨g, cap, cur, h, _⟩
    · omega
    · exact ⟨_, _, h⟩
  have HE := hid (deep_end (d' := (d : Int) + 1) hB hown hown1 hgrow)
  clear hown1 hgrow hown hb1 c0 c2
  go_wp2
  go_ret
  exact ⟨_, HE.out⟩

set_option maxHeartbeats 1000000 in
theorem levelWord (fs : List Bool) (t d : Nat) (a : Option Addr) (n c : Nat) (w : World) (hd : d < 64) (ht : d < t) :
    Calls Try.prog 19 #[.int .u64 (Wd fs t : Int), .slice a n c, .int .i64 d] w fun e w' => e = .returned (.bool (fs.getD d false)) ∧ w' = w := by
  have hd' : (d : Int) < 64 := by omega
  have hw := Wd_le fs t
  have h1 : (0 : Int) ≤ (Wd fs t : Int) := Int.natCast_nonneg _
  have h2 : (Wd fs t : Int) < 18446744073709551616 := by omega
  obtain ⟨r, hr⟩ : ∃ r, fs.getD d false = r := ⟨_, rfl⟩
  have HB := hid ((word_bit fs d t hd ht).trans hr)
  rw [hr]
  generalize Wd fs t = O at *
  clear hd hw hr ht
  go_enter Try.func19, Try.ntmps19
  go_wp2
  go_ret
  exact ⟨congrArg (fun b => Ending.returned (.bool b)) HB.out, rfl⟩

set_option maxHeartbeats 1000000 in
theorem levelDeep (ds : List Bool) (o : Int) (d : Nat) (a : Option Addr) (n c : Nat) (w : World) (hr : RdL w a ds) (hn : ds.length = n) (hd : 64 ≤ d) (hdn : d < 64 + n) (hb : d ≤ 10000) :
    Calls Try.prog 19 #[.int .u64 o, .slice a n c, .int .i64 d] w fun e w' => e = .returned (.bool (ds.getD (d - 64) false)) ∧ w' = w := by
  obtain ⟨b, off, h1, h2⟩ := hr
  obtain rfl := h1 (by omega)
  have hc := h2 (d - 64) (by omega)
  have hd' : ¬ (d : Int) < 64 := by omega
  obtain ⟨j, rfl⟩ : ∃ j, d = 64 + j := ⟨d - 64, by omega⟩
  rw [Nat.add_sub_cancel_left] at hc ⊢
  generalize ds.getD j false = r at *
  have hj : (j : Int) < (n : Int) := by omega
  clear h2
  go_enter Try.func19, Try.ntmps19
  go_wp2
  go_ret
  exact ⟨rfl, rfl⟩

end Go.Proofs.Qxb6601649a

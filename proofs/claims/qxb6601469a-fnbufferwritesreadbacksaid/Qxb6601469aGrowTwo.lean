/-
  THE WALK of grow (21), the doubling; ZZGrow (18).
-/
import Derived.Test.Qxb6601469aGrow
import Derived.BigQuiet
namespace Go.Proofs.Qxb6601469a
open Go.RowKit

theorem grown_new {w w1 : World} {o : Obj} (h : ((w.alloc o).drew).grownBy w1 (some w.heap.size)) : w.grownBy w1 none := by
  refine ⟨h.os, h.tape, h.output, ?_, fun k hk _ => ?_⟩
  · have := h.size
    have e : ((w.alloc o).drew).heap.size = w.heap.size + 1 := by simp
    omega
  · rw [h.block k (by show k < (w.alloc o).heap.size; simp; omega) (by simp; omega)]
    exact Below.heap_alloc w o k hk

set_option maxHeartbeats 1000000 in
set_option maxRecDepth 100000 in
theorem grow_b (p : Nat) (fa : Option Addr) (nf fc : Nat) (hnf : nf = 0) (lb lo c : Nat) (zs : List Int) (w : World) (hB : Box w p (.slice fa nf fc) (.slice (some ⟨lb, lo, none⟩) zs.length c))
    (hr : ∀ i, i < zs.length → w.cell? ⟨lb, lo + i, none⟩ = some (.int .u8 (zs.getD i 0))) (hz : 0 < zs.length) (hzc : zs.length ≤ c) (hc : c < 32768) :
    Calls Try.prog 21 #[.pointer (some ⟨p, 0, none⟩)] w (GrowAB w p (.slice fa nf fc) zs (2 * c)) := by
  obtain ⟨i5, hi5, h50, h51, h52⟩ := info_parts info5
  have c0 := hB.c0
  have c1 := hB.c1
  have f1 := hB.f1
  have hpl := hB.lt
  have hmk := run_make23 c (by omega)
  have c1a : ∀ o, (w.alloc o).cell? ⟨p, 1, none⟩ = some (.slice (some ⟨lb, lo, none⟩) zs.length c) := fun o => (((Below.refl _ w).alloc (Nat.le_refl _) o).cell (p := ⟨p, 1, none⟩) hpl).trans c1
  have e0 : ((c : Int) == 0) = false := by simp; omega
  have e1 : ((nf : Int) == 0) = true := by simp; omega
  have HR := hid hr
  have HN := hid hnf
  have hc' : (c : Int) < 32768 := by omega
  have hwr : IntKind.i64.wrap (2 * (c : Int)) = 2 * (c : Int) := by rw [IntKind.wrap_i64]; omega
  have HO : Hid (((w.alloc (.cells (madeCells #[.int .u8 0] (2 * c)) 5)).drew).ownsRow w.heap.size 5 1 (.slice (some ⟨w.heap.size, 0, none⟩) 0 (2 * c)) 0 []) :=
    hid (World.ownsRow_made w _ (2 * c) (Nat.le_refl _) (by unfold maxLen; omega) (by rw [size_madeCells, Nat.mul_one])).drew
  have HNw : Hid (∀ j u, (bs zs)[j]? = some u → ((w.alloc (.cells (madeCells #[.int .u8 0] (2 * c)) 5)).drew).cell? ((⟨lb, lo, none⟩ : Addr).add j) = some u) := hid (by
    intro j u hu
    have hj : j < zs.length := by have := (List.getElem?_eq_some_iff.1 hu).1; simpa [bs] using this
    have hcj := hr j hj
    have hlt : lb < w.heap.size := World.block_lt_of_cell? _ _ hcj
    rw [Addr.add_lit, ((Below.refl _ w).alloc (Nat.le_refl _) _).drew.cell (p := ⟨lb, lo + j, none⟩) hlt, hcj, ← bs_get zs j hj]
    exact hu)
  have hpn : some w.heap.size ≠ some p := by simp; omega
  have hle : 0 + zs.length ≤ 2 * c := by omega
  have HC := hid hc
  clear hr hnf hc
  go_enter Try.func21, Try.ntmps21
  go_wp2_with fail
  go_region_law ((refine step_append_fits (by rfl) (.tmp 52) (.tmp 56) 23 (by rfl) w.heap.size 5 i5 1 Try.underlying23 hi5 h51 w.heap.size 0 (2 * c) [] (by simp [Act.eval]) HO.out ⟨lb, lo, none⟩ zs.length c (bs zs) (by simp [Act.eval]) (by simp [bs]) HNw.out (ints_oneCell _ _) hle ?_; intro w1 hown1 hgrow; have hb1 := hB.app hgrow hpn; have q0 := hb1.c1; have q1 := hb1.f1))
  all_goals
    rw [Nat.zero_add, List.nil_append] at hown1
    have HE := hid (growab_end hB (Nat.le_refl _) hown1 (grown_new hgrow))
    clear hown1 hgrow q0 q1 hb1
    go_wp2
    go_end0
    exact HE.out

theorem kept2_grown {w w' : World} {o : Obj} {row : Option Nat} (h : Kept2 (w.alloc o) w' w.heap.size row) (n : Nat) : w.grownBy (w'.drewN n) row := by
  refine ⟨h.os, h.tape, h.output, ?_, fun k hk hr => ?_⟩
  · have := h.size
    have e : (w.alloc o).heap.size = w.heap.size + 1 := by simp
    show w.heap.size ≤ w'.heap.size
    omega
  · show w'.heap[k]? = _
    rw [h.block k (by simp; omega) (by omega) hr]
    exact Below.heap_alloc w o k hk

theorem box_new (w : World) (fv lv : Value) : Box (w.alloc (.cells #[fv, lv] 40)) w.heap.size fv lv := heap_alloc_new w _

/-- ZZGrow, the first two ways. -/
def ZAB (w : World) (fv : Value) (zs : List Int) (c : Nat) (e : Ending) (w' : World) : Prop :=
  ∃ g2, e = .returned (.tuple #[fv, .slice (some ⟨g2, 0, none⟩) zs.length c]) ∧ w.heap.size ≤ g2 ∧ w'.ownsRow w.heap.size 5 1 (.slice (some ⟨g2, 0, none⟩) zs.length c) zs.length (bs zs) ∧ w.grownBy w' none

/-- ZZGrow, the third way. -/
def ZC (w : World) (base : Nat) (fv : Value) (nf : Nat) (vs : List Value) (lv : Value) (e : Ending) (w' : World) : Prop :=
  ∃ g cap g2, e = .returned (.tuple #[.slice (some ⟨g, 0, none⟩) (nf + 1) cap, .slice (some ⟨g2, 0, none⟩) 0 32768]) ∧
    w'.ownsRow base 23 1 (.slice (some ⟨g, 0, none⟩) (nf + 1) cap) (nf + 1) (vs ++ [lv]) ∧ (fv.ownBlock = some g ∨ w.heap.size ≤ g) ∧
    w.heap.size ≤ g2 ∧ w'.ownsRow w.heap.size 5 1 (.slice (some ⟨g2, 0, none⟩) 0 32768) 0 [] ∧ w.grownBy w' fv.ownBlock

theorem ownsRow_drewN {w : World} {base : Nat} {e : TypeId} {size : Nat} {v : Value} {n : Nat} {xs : List Value} (h : w.ownsRow base e size v n xs) (k : Nat) : (w.drewN k).ownsRow base e size v n xs := h

theorem zab_end {w w' : World} {fv : Value} {zs : List Int} {c g2 : Nat} {o : Obj} (hg : (w.alloc o).heap.size ≤ g2) (ho : w'.ownsRow (w.alloc o).heap.size 5 1 (.slice (some ⟨g2, 0, none⟩) zs.length c) zs.length (bs zs))
    (hk : Kept2 (w.alloc o) w' w.heap.size none) (n : Nat) : ZAB w fv zs c (.returned (.tuple #[fv, .slice (some ⟨g2, 0, none⟩) zs.length c])) (w'.drewN n) := by
  have e : (w.alloc o).heap.size = w.heap.size + 1 := by simp
  exact ⟨g2, rfl, by omega, ownsRow_drewN (ownsRow_weaken ho (by omega)) n, kept2_grown hk n⟩

set_option maxHeartbeats 1000000 in
theorem zzGrow_a (fa : Option Addr) (nf fc : Nat) (la : Option Addr) (w : World) :
    Calls Try.prog 18 #[.slice fa nf fc, .slice la 0 0] w (ZAB w (.slice fa nf fc) [] 1024) := by
  go_enter Try.func18, Try.ntmps18
  go_wp2_with fail
  refine (grow_a w.heap.size (.slice fa nf fc) la _ (box_new w _ _)).mono ?_
  rintro e w' ⟨rfl, g2, hg, hb, ho, hk⟩
  have c0 := hb.c0
  have c1 := hb.c1
  have HE := hid (fun n => zab_end (fv := .slice fa nf fc) hg ho hk n)
  clear hg hb ho hk
  go_wp2
  go_quiet (fail)
  go_wp2
  go_ret2
  exact HE.out _

end Go.Proofs.Qxb6601469a

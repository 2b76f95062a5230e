/-
  THE WALK of ZZGrow (18), the second and the third way.
-/
import Derived.Test.Qxb6601469aGrowTwo
namespace Go.Proofs.Qxb6601469a
open Go.RowKit

set_option maxHeartbeats 1000000 in
theorem zzGrow_b (fa : Option Addr) (nf fc : Nat) (hnf : nf = 0) (la : Option Addr) (c : Nat) (zs : List Int) (w : World) (hr : RdB w la zs) (hz : 0 < zs.length) (hzc : zs.length ≤ c) (hc : c < 32768) :
    Calls Try.prog 18 #[.slice fa nf fc, .slice la zs.length c] w (ZAB w (.slice fa nf fc) zs (2 * c)) := by
  have hb1 : ∀ o, Below w.heap.size w (w.alloc o) := fun o => (Below.refl _ _).alloc (Nat.le_refl _) o
  obtain ⟨lb, lo, l1, l2⟩ := hr
  obtain rfl := l1 hz
  have l3 : ∀ o i, i < zs.length → (w.alloc o).cell? ⟨lb, lo + i, none⟩ = some (.int .u8 (zs.getD i 0)) := fun o i hi => by
    have hc := l2 i hi
    rw [(hb1 o).cell (p := ⟨lb, lo + i, none⟩) (World.block_lt_of_cell? _ _ hc)]
    exact hc
  have H3 := hid l3
  have HC := hid hc
  have HN := hid hnf
  clear l2 l3 hc hnf hb1
  go_enter Try.func18, Try.ntmps18
  go_wp2_with fail
  refine (grow_b w.heap.size fa nf fc HN.out lb lo c zs _ (box_new w _ _) (H3.out _) hz hzc HC.out).mono ?_
  rintro e w' ⟨rfl, g2, hg, hb, ho, hk⟩
  have c0 := hb.c0
  have c1 := hb.c1
  have HE := hid (fun n => zab_end (fv := .slice fa nf fc) hg ho hk n)
  clear hg hb ho hk
  go_wp2
  go_quiet (fail)
  go_wp2
  go_ret2
  exact HE.out _

theorem zc_end {w w' : World} {base : Nat} {fv lv : Value} {nf : Nat} {vs : List Value} {g cap g2 : Nat} {o : Obj}
    (h1 : w'.ownsRow base 23 1 (.slice (some ⟨g, 0, none⟩) (nf + 1) cap) (nf + 1) (vs ++ [lv])) (h2 : fv.ownBlock = some g ∨ (w.alloc o).heap.size ≤ g)
    (h3 : (w.alloc o).heap.size ≤ g2) (h4 : w'.ownsRow (w.alloc o).heap.size 5 1 (.slice (some ⟨g2, 0, none⟩) 0 32768) 0 []) (h5 : Kept2 (w.alloc o) w' w.heap.size fv.ownBlock) (n : Nat) :
    ZC w base fv nf vs lv (.returned (.tuple #[.slice (some ⟨g, 0, none⟩) (nf + 1) cap, .slice (some ⟨g2, 0, none⟩) 0 32768])) (w'.drewN n) := by
  have e : (w.alloc o).heap.size = w.heap.size + 1 := by simp
  refine ⟨g, cap, g2, rfl, ownsRow_drewN h1 n, ?_, by omega, ownsRow_drewN (ownsRow_weaken h4 (by omega)) n, kept2_grown h5 n⟩
  rcases h2 with h | h
  · exact .inl h
  · exact .inr (by omega)

set_option maxHeartbeats 1000000 in
theorem zzGrow_c (base : Nat) (fa : Option Addr) (nf fc : Nat) (la : Option Addr) (ln lc : Nat) (vs : List Value) (w : World)
    (hown : w.ownsRow base 23 1 (.slice fa nf fc) nf vs) (hbase : base ≤ w.heap.size) (h0 : 0 < lc) (h1 : nf = 0 → 32768 ≤ lc) (hn : nf ≤ 65536) (hlc : lc ≤ 1048576) :
    Calls Try.prog 18 #[.slice fa nf fc, .slice la ln lc] w (ZC w base (.slice fa nf fc) nf vs (.slice la ln lc)) := by
  have hne : (Value.slice fa nf fc).ownBlock ≠ some w.heap.size := fun h => by have := (hown.lt _ h).2; omega
  have HN := hid hne
  have H1 := hid h1
  clear hne h1
  go_enter Try.func18, Try.ntmps18
  go_wp2_with fail
  refine (grow_c w.heap.size base fa nf fc la ln lc vs _ (box_new w _ _) (hown.alloc _) (by simp; omega) HN.out h0 H1.out hn hlc).mono ?_
  rintro e w' ⟨rfl, g, cap, g2, hb, q1, q2, q3, q4, q5⟩
  have c0 := hb.c0
  have c1 := hb.c1
  have HE := hid (fun n => zc_end q1 q2 q3 q4 q5 n)
  clear hb q1 q2 q3 q4 q5 hown
  go_wp2
  go_quiet (fail)
  go_wp2
  go_ret2
  exact HE.out _

end Go.Proofs.Qxb6601469a

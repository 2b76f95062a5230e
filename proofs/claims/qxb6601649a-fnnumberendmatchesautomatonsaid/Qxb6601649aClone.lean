/-
  THE WALKS of cloneBytes (9).
-/
import Derived.Test.Qxb6601649aRows
import Derived.Test.Qxb6601649aBase
import Derived.WalkLawsBesides
import Derived.Deep.LoopGhost
namespace Go.Proofs.Qxb6601649a
open Go.RowKit

theorem info5 : (Try.prog.info? 5).map (fun i => (i.zero, i.size, i.bytes)) = some (some (.int .u8 0), 1, 1) := by kernel_rfl

theorem eqlNil (t e : TypeId) (ht : Try.prog.underlying t = some (.slice e)) (w : World) (a : Option Addr) (n c n' c' : Nat) :
    (binOp .eql t (.slice a n c) (.slice none n' c')).run Try.prog w = .ok (.bool a.isNone) w := Lib.run_eql_slice_nil w _ _ a n c n' c' ht

set_option maxHeartbeats 400000 in
theorem cloneBytes_nil (w : World) :
    Calls Try.prog 9 #[.slice none 0 0] w fun e w' => e = .returned (.slice none 0 0) ∧ w' = w := by
  have q := eqlNil 22 5 Try.underlying22
  go_enter Try.func9, Try.ntmps9
  go_wp2
  go_ret
  exact ⟨rfl, rfl⟩

set_option maxHeartbeats 400000 in
theorem cloneBytes_some (x : Addr) (n c : Nat) (zs : List Int) (w : World) (hr : RdB w (some x) zs) (hz : zs.length = n) (hb : n ≤ 140737488355328) :
    Calls Try.prog 9 #[.slice (some x) n c] w fun e w' => e = .returned (.slice (some ⟨w.heap.size, 0, none⟩) n n) ∧
      w'.ownsRow w.heap.size 5 1 (.slice (some ⟨w.heap.size, 0, none⟩) n n) n (bs zs) ∧ Below w.heap.size w w' := by
  have q := eqlNil 22 5 Try.underlying22
  obtain ⟨i0, hi, hz0, hz1, hz2⟩ := info_parts info5
  obtain ⟨b, off, h1, h2⟩ := hr
  go_enter Try.func9, Try.ntmps9
  go_wp2_with (at_make; refine wpList_make_full _ rfl _ _ 22 rfl w.heap.size 5 i0 (.int .u8 0) 1 Try.underlying22 hi hz0 hz1 _ _ _ _ n rfl rfl rfl rfl (by rw [hz2]; omega) (by unfold maxLen; omega) (Nat.le_refl _) ?_)
  intro w1 hown hgrow
  rw [zeros_made] at hown
  have hbel := grownBy_below hgrow
  clear hgrow
  go_wp2
  go_loopw [4] (fun i wr => ∃ k : Nat, k ≤ n ∧ i = .int .i64 k ∧ wr.ownsRow w.heap.size 5 1 (.slice (some ⟨w.heap.size, 0, none⟩) n n) n (bs (zs.take k ++ List.replicate (n - k) 0)) ∧ Below w.heap.size w wr)
    (fun i _ => n - (intOf i).toNat)
  case atStart => exact ⟨0, Nat.zero_le _, rfl, by simpa using hown, hbel⟩
  case round =>
    obtain ⟨k, hk, rfl, hown', hbel'⟩ := hrel
    clear hown hbel
    by_cases hlt : k < n
    · obtain rfl : x = ⟨b, off, none⟩ := by simpa using h1 (by omega)
      have hc0 := h2 k (by omega)
      have hblt : b < w.heap.size := World.block_lt_of_cell? _ _ hc0
      have hcx : wr.cell? ⟨b, off + k, none⟩ = some (.int .u8 (zs.getD k 0)) := (hbel'.cell (p := ⟨b, off + k, none⟩) hblt).trans hc0
      have hcy : wr.cell? ⟨w.heap.size, k, none⟩ = some (.int .u8 ((zs.take k ++ List.replicate (n - k) 0).getD k 0)) := by
        rw [hown'.cellAt k (by omega), bs_get _ _ (by simp; omega)]
      have hfy := hown'.frozenAt k
      have hst := (hown'.stored k (.int .u8 (zs.getD k 0))).1
      rw [fill_step zs n k hz hlt] at hst
      generalize zs.getD k 0 = z at hcx hst
      have H := hid (hst)
      clear hst hown' hc0 h2
      go_wp2
      go_roundw
      case rel => exact ⟨k + 1, by omega, by go_num, H.out, hbel'.setCell (Nat.le_refl _) _⟩
      case measure => simp [intOf]; omega
    · go_wp2
      go_ret
      obtain rfl : k = n := by omega
      refine ⟨rfl, ?_, hbel'⟩
      simpa [← hz] using hown'

theorem cloneBytes_any (a : Option Addr) (n c : Nat) (zs : List Int) (w : World) (hr : RdB w a zs) (hz : zs.length = n) (hn : a = none → c = 0) (hc : n ≤ c) (hb : n ≤ 140737488355328) :
    Calls Try.prog 9 #[.slice a n c] w fun e w' => ∃ a', e = .returned (.slice a' n n) ∧ w'.ownsRow w.heap.size 5 1 (.slice a' n n) n (bs zs) ∧ Below w.heap.size w w' := by
  cases a with
  | none =>
    obtain rfl := hn rfl
    obtain rfl : n = 0 := by omega
    obtain rfl := List.eq_nil_of_length_eq_zero hz
    refine (cloneBytes_nil w).mono ?_
    rintro e w' ⟨rfl, rfl⟩
    exact ⟨none, rfl, World.ownsRow_nil _ _ _ _, Below.refl _ _⟩
  | some x =>
    refine (cloneBytes_some x n c zs w hr hz hb).mono ?_
    rintro e w' ⟨rfl, h1, h2⟩
    exact ⟨_, rfl, h1, h2⟩

end Go.Proofs.Qxb6601649a

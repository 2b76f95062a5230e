/-
  []bool: what it reads as; THE WALK of cloneBools (16); zzBytes (15).
-/
import Derived.Test.Qxb6601649aDigits
namespace Go.Proofs.Qxb6601649a
open Go.RowKit

/-- The cells of a list of bools. -/
def vb (fs : List Bool) : List Value := fs.map Value.bool

theorem vb_append (a b : List Bool) : vb (a ++ b) = vb a ++ vb b := by simp [vb]
theorem vb_get (fs : List Bool) (i : Nat) (h : i < fs.length) : (vb fs)[i]? = some (.bool (fs.getD i false)) := by
  simp [vb, List.getD, h]

/-- A slice (its address, its elements) reads as the bools fs. -/
def RdL (w : World) (a : Option Addr) (fs : List Bool) : Prop :=
  ∃ b off, (0 < fs.length → a = some ⟨b, off, none⟩) ∧ ∀ i, i < fs.length → w.cell? ⟨b, off + i, none⟩ = some (.bool (fs.getD i false))

theorem RdL.below {w w' : World} {a : Option Addr} {fs : List Bool} (h : RdL w a fs) (hb : Below w.heap.size w w') : RdL w' a fs := by
  obtain ⟨b, off, h1, h2⟩ := h
  refine ⟨b, off, h1, fun i hi => ?_⟩
  have hc := h2 i hi
  rw [hb.cell (p := ⟨b, off + i, none⟩) (World.block_lt_of_cell? _ _ hc)]
  exact hc

/-- What the call owns reads as its bools. -/
theorem own_rdL {w : World} {base : Nat} {a : Option Addr} {n m c : Nat} {fs : List Bool} (h : w.ownsRow base 4 1 (.slice a n c) m (vb fs)) : RdL w a fs := by
  have hl : fs.length = m := by have := h.1; simpa [vb] using this
  rcases h.2 with ⟨hv, hm⟩ | ⟨g, cap, cur, hv, hb, hg, hnc, hcm, hcs, htake⟩
  · exact ⟨0, 0, fun h0 => by omega, fun i hi => by omega⟩
  · simp only [Value.slice.injEq] at hv
    obtain ⟨rfl, rfl, rfl⟩ := hv
    refine ⟨g, 0, fun _ => rfl, fun i hi => ?_⟩
    have := h.cellAt i (by omega)
    rw [Nat.zero_add, this, vb_get fs i hi]

theorem take_snocB (fs : List Bool) (k : Nat) (h : k < fs.length) : fs.take (k + 1) = fs.take k ++ [fs.getD k false] := by
  rw [List.take_succ_eq_append_getElem h]; simp [List.getD, h]

theorem fill_stepB (fs : List Bool) (n k : Nat) (hz : fs.length = n) (hk : k < n) :
    (vb (fs.take k ++ List.replicate (n - k) false)).set k (.bool (fs.getD k false)) = vb (fs.take (k + 1) ++ List.replicate (n - (k + 1)) false) := by
  rw [take_snocB fs k (by omega)]
  have e : n - k = (n - (k + 1)) + 1 := by omega
  rw [e, List.replicate_succ]
  simp only [vb, List.map_append, List.map_cons]
  rw [List.set_append_right _ _ (by simp; omega)]
  have : (k - (List.map Value.bool (List.take k fs)).length) = 0 := by simp; omega
  rw [this]
  simp

theorem falses_made (n : Nat) : (madeCells #[Value.bool false] n).toList = vb (List.replicate n false) := by
  rw [toList_madeCells_one]
  simp [vb]

theorem info4 : (Try.prog.info? 4).map (fun i => (i.zero, i.size, i.bytes)) = some (some (.bool false), 1, 1) := by kernel_rfl

theorem eqlNilB (t e : TypeId) (ht : Try.prog.underlying t = some (.slice e)) (w : World) (a : Option Addr) (n c n' c' : Nat) :
    (binOp .eql t (.slice a n c) (.slice none n' c')).run Try.prog w = .ok (.bool a.isNone) w := Lib.run_eql_slice_nil w _ _ a n c n' c' ht

set_option maxHeartbeats 400000 in
theorem cloneBools_nil (w : World) :
    Calls Try.prog 16 #[.slice none 0 0] w fun e w' => e = .returned (.slice none 0 0) ∧ w' = w := by
  have q := eqlNilB 29 4 Try.underlying29
  go_enter Try.func16, Try.ntmps16
  go_wp2
  go_ret
  exact ⟨rfl, rfl⟩

set_option maxHeartbeats 400000 in
theorem cloneBools_some (x : Addr) (n c : Nat) (zs : List Bool) (w : World) (hr : RdL w (some x) zs) (hz : zs.length = n) (hb : n ≤ 140737488355328) :
    Calls Try.prog 16 #[.slice (some x) n c] w fun e w' => e = .returned (.slice (some ⟨w.heap.size, 0, none⟩) n n) ∧
      w'.ownsRow w.heap.size 4 1 (.slice (some ⟨w.heap.size, 0, none⟩) n n) n (vb zs) ∧ Below w.heap.size w w' := by
  have q := eqlNilB 29 4 Try.underlying29
  obtain ⟨i0, hi, hz0, hz1, hz2⟩ := info_parts info4
  obtain ⟨b, off, h1, h2⟩ := hr
  go_enter Try.func16, Try.ntmps16
  go_wp2_with (at_make; refine wpList_make_full _ rfl _ _ 29 rfl w.heap.size 4 i0 (.bool false) 1 Try.underlying29 hi hz0 hz1 _ _ _ _ n rfl rfl rfl rfl (by rw [hz2]; omega) (by unfold maxLen; omega) (Nat.le_refl _) ?_)
  intro w1 hown hgrow
  rw [falses_made] at hown
  have hbel := grownBy_below hgrow
  clear hgrow
  go_wp2
  go_loopw [4] (fun i wr => ∃ k : Nat, k ≤ n ∧ i = .int .i64 k ∧ wr.ownsRow w.heap.size 4 1 (.slice (some ⟨w.heap.size, 0, none⟩) n n) n (vb (zs.take k ++ List.replicate (n - k) false)) ∧ Below w.heap.size w wr)
    (fun i _ => n - (intOf i).toNat)
  case atStart => exact ⟨0, Nat.zero_le _, rfl, by simpa using hown, hbel⟩
  case round =>
    obtain ⟨k, hk, rfl, hown', hbel'⟩ := hrel
    clear hown hbel
    by_cases hlt : k < n
    · obtain rfl : x = ⟨b, off, none⟩ := by simpa using h1 (by omega)
      have hc0 := h2 k (by omega)
      have hblt : b < w.heap.size := World.block_lt_of_cell? _ _ hc0
      have hcx : wr.cell? ⟨b, off + k, none⟩ = some (.bool (zs.getD k false)) := (hbel'.cell (p := ⟨b, off + k, none⟩) hblt).trans hc0
      have hcy : wr.cell? ⟨w.heap.size, k, none⟩ = some (.bool ((zs.take k ++ List.replicate (n - k) false).getD k false)) := by
        rw [hown'.cellAt k (by omega), vb_get _ _ (by simp; omega)]
      have hfy := hown'.frozenAt k
      have hst := (hown'.stored k (.bool (zs.getD k false))).1
      rw [fill_stepB zs n k hz hlt] at hst
      generalize zs.getD k false = z at hcx hst
      have H := hid (hst)
      clear hst hown' hc0 h2
      go_wp2
      go_roundw
      case rel => exact ⟨k + 1, by omega, by go_num, H.out, hbel'.setCell (Nat.le_refl _) _⟩
      case measure => simp [intOf]; omega
    · go_wp2
      go_ret
      obtain rfl : k = n := by omega
      refine ⟨rfl, ?_, hbel'⟩
      simpa [← hz] using hown'

theorem cloneBools_any (a : Option Addr) (n c : Nat) (zs : List Bool) (w : World) (hr : RdL w a zs) (hz : zs.length = n) (hn : a = none → c = 0) (hc : n ≤ c) (hb : n ≤ 140737488355328) :
    Calls Try.prog 16 #[.slice a n c] w fun e w' => ∃ a', e = .returned (.slice a' n n) ∧ w'.ownsRow w.heap.size 4 1 (.slice a' n n) n (vb zs) ∧ Below w.heap.size w w' := by
  cases a with
  | none =>
    obtain rfl := hn rfl
    obtain rfl : n = 0 := by omega
    obtain rfl := List.eq_nil_of_length_eq_zero hz
    refine (cloneBools_nil w).mono ?_
    rintro e w' ⟨rfl, rfl⟩
    exact ⟨none, rfl, World.ownsRow_nil _ _ _ _, Below.refl _ _⟩
  | some x =>
    refine (cloneBools_some x n c zs w hr hz hb).mono ?_
    rintro e w' ⟨rfl, h1, h2⟩
    exact ⟨_, rfl, h1, h2⟩

set_option maxHeartbeats 400000 in
theorem zz15_any (a : Option Addr) (n c : Nat) (w : World) (hn : n ≤ maxLen) : Calls Try.prog 15 #[.slice a n c] w (Brings w True) := by
  unfold maxLen at hn
  go_enter Try.func15, Try.ntmps15
  go_wp2
  all_goals
    go_ret
    first | exact Brings.no _ _ | exact Brings.yes _ trivial

end Go.Proofs.Qxb6601649a

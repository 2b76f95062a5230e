/-
  THE WALKS of copyBytes (11).
-/
import Derived.Test.Qxb6601469aRows
import Derived.Test.Qxb6601469aBase
import Derived.WalkLawsBesides
import Derived.Deep.LoopGhost
namespace Go.Proofs.Qxb6601469a
open Go.RowKit

theorem info5 : (Try.prog.info? 5).map (fun i => (i.zero, i.size, i.bytes)) = some (some (.int .u8 0), 1, 1) := by kernel_rfl

theorem eqlNil (t e : TypeId) (ht : Try.prog.underlying t = some (.slice e)) (w : World) (a : Option Addr) (n c n' c' : Nat) :
    (binOp .eql t (.slice a n c) (.slice none n' c')).run Try.prog w = .ok (.bool a.isNone) w := Lib.run_eql_slice_nil w _ _ a n c n' c' ht

set_option maxHeartbeats 400000 in
theorem copyBytes_nil (w : World) :
    Calls Try.prog 11 #[.slice none 0 0] w fun e w' => e = .returned (.slice none 0 0) ∧ w' = w := by
  have q := eqlNil 23 5 Try.underlying23
  go_enter Try.func11, Try.ntmps11
  go_wp2
  go_ret
  exact ⟨rfl, rfl⟩

set_option maxHeartbeats 400000 in
theorem copyBytes_some (x : Addr) (n c : Nat) (zs : List Int) (w : World) (hr : RdB w (some x) zs) (hz : zs.length = n) (hb : n ≤ 140737488355328) :
    Calls Try.prog 11 #[.slice (some x) n c] w fun e w' => e = .returned (.slice (some ⟨w.heap.size, 0, none⟩) n n) ∧
      w'.ownsRow w.heap.size 5 1 (.slice (some ⟨w.heap.size, 0, none⟩) n n) n (bs zs) ∧ Below w.heap.size w w' := by
  have q := eqlNil 23 5 Try.underlying23
  obtain ⟨i0, hi, hz0, hz1, hz2⟩ := info_parts info5
  obtain ⟨b, off, h1, h2⟩ := hr
  go_enter Try.func11, Try.ntmps11
  go_wp2_with (at_make; refine wpList_make_full _ rfl _ _ 23 rfl w.heap.size 5 i0 (.int .u8 0) 1 Try.underlying23 hi hz0 hz1 _ _ _ _ n rfl rfl rfl rfl (by rw [hz2]; omega) (by unfold maxLen; omega) (Nat.le_refl _) ?_)
  intro w1 hown hgrow
  rw [zeros_made] at hown
  have hbel := grownBy_below hgrow
  clear hgrow
  go_wp2
  go_loopw [4] (fun i wr => ∃ k : Nat, k ≤ n ∧ i = .int .i64 k ∧ wr.ownsRow w.heap.size 5 1 (.slice (some ⟨w.heap.size, 0, none⟩) n n) n (bs (zs.take k ++ List.replicate (n - k) 0)) ∧ Below w.heap.size w wr)
    (fun i _ => n - (intOf i).toNat)
  case atStart => exact ⟨0, Nat.zero_le _, rfl, by simpa using hown, hbel⟩
  case round =>
    obtain ⟨k, hk, rfl, hown', hbel'⟩ := hrel
    clear hown hbel
    by_cases hlt : k < n
    · obtain rfl : x = ⟨b, off, none⟩ := by simpa using h1 (by omega)
      have hc0 := h2 k (by omega)
      have hblt : b < w.heap.size := World.block_lt_of_cell? _ _ hc0
      have hcx : wr.cell? ⟨b, off + k, none⟩ = some (.int .u8 (zs.getD k 0)) := (hbel'.cell (p := ⟨b, off + k, none⟩) hblt).trans hc0
      have hcy : wr.cell? ⟨w.heap.size, k, none⟩ = some (.int .u8 ((zs.take k ++ List.replicate (n - k) 0).getD k 0)) := by
        rw [hown'.cellAt k (by omega), bs_get _ _ (by simp; omega)]
      have hfy := hown'.frozenAt k
      have hst := (hown'.stored k (.int .u8 (zs.getD k 0))).1
      rw [fill_step zs n k hz hlt] at hst
      generalize zs.getD k 0 = z at hcx hst
      have H := hid (hst)
      clear hst hown' hc0 h2
      go_wp2
      go_roundw
      case rel => exact ⟨k + 1, by omega, by go_num, H.out, hbel'.setCell (Nat.le_refl _) _⟩
      case measure => simp [intOf]; omega
    · go_wp2
      go_ret
      obtain rfl : k = n := by omega
      refine ⟨rfl, ?_, hbel'⟩
      simpa [← hz] using hown'

theorem copyBytes_any (a : Option Addr) (n c : Nat) (zs : List Int) (w : World) (hr : RdB w a zs) (hz : zs.length = n) (hn : a = none → c = 0) (hc : n ≤ c) (hb : n ≤ 140737488355328) :
    Calls Try.prog 11 #[.slice a n c] w fun e w' => ∃ a', e = .returned (.slice a' n n) ∧ w'.ownsRow w.heap.size 5 1 (.slice a' n n) n (bs zs) ∧ Below w.heap.size w w' := by
  cases a with
  | none =>
    obtain rfl := hn rfl
    obtain rfl : n = 0 := by omega
    obtain rfl := List.eq_nil_of_length_eq_zero hz
    refine (copyBytes_nil w).mono ?_
    rintro e w' ⟨rfl, rfl⟩
    exact ⟨none, rfl, World.ownsRow_nil _ _ _ _, Below.refl _ _⟩
  | some x =>
    refine (copyBytes_some x n c zs w hr hz hb).mono ?_
    rintro e w' ⟨rfl, h1, h2⟩
    exact ⟨_, rfl, h1, h2⟩

theorem info23 : (Try.prog.info? 23).map (fun i => (i.zero, i.size, i.bytes)) = some (some (.slice none 0 0), 1, 24) := by kernel_rfl

set_option maxHeartbeats 400000 in
theorem copyBlocks_nil (w : World) :
    Calls Try.prog 10 #[.slice none 0 0] w fun e w' => e = .returned (.slice none 0 0) ∧ w' = w := by
  have q := eqlNil 22 23 Try.underlying22
  go_enter Try.func10, Try.ntmps10
  go_wp2
  go_ret
  exact ⟨rfl, rfl⟩

/-- What the loop of copyBlocks keeps. -/
def CbRel (w : World) (n : Nat) (Zs : List (List Int)) (k : Nat) (wr : World) : Prop :=
  ∃ vs : List Value, vs.length = k ∧ wr.ownsRow w.heap.size 23 1 (.slice (some ⟨w.heap.size, 0, none⟩) n n) n (vs ++ List.replicate (n - k) (.slice none 0 0)) ∧
    (∀ i, i < k → ∃ ai, vs[i]? = some (.slice ai (Zs.getD i []).length (Zs.getD i []).length) ∧ wr.ownsRow (w.heap.size + 1) 5 1 (.slice ai (Zs.getD i []).length (Zs.getD i []).length) (Zs.getD i []).length (bs (Zs.getD i []))) ∧
    Below w.heap.size w wr ∧ w.heap.size < wr.heap.size

theorem CbRel.cell {w : World} {n : Nat} {Zs : List (List Int)} {k : Nat} {wr w2 : World} (h : CbRel w n Zs k wr) (hk : k < n) (hb : Below wr.heap.size wr w2) :
    w2.cell? ⟨w.heap.size, k, none⟩ = some (.slice none 0 0) ∧ w2.frozen? ⟨w.heap.size, k, none⟩ = false := by
  obtain ⟨vs, hl, ho, _, _, _⟩ := h
  have ho2 := ownsRow_below ho hb
  refine ⟨?_, ho2.frozenAt k⟩
  rw [ho2.cellAt k (by omega), List.getElem?_append_right (by omega), List.getElem?_replicate]
  simp; omega

theorem CbRel.bel {w : World} {n : Nat} {Zs : List (List Int)} {k : Nat} {wr : World} (h : CbRel w n Zs k wr) : Below w.heap.size w wr := by
  obtain ⟨_, _, _, _, h, _⟩ := h
  exact h

theorem CbRel.step {w : World} {n : Nat} {Zs : List (List Int)} {k : Nat} {wr w2 : World} {a' : Option Addr} {L : Nat} (h : CbRel w n Zs k wr) (hk : k < n) (hL : (Zs.getD k []).length = L) (hb : Below wr.heap.size wr w2)
    (ho : w2.ownsRow wr.heap.size 5 1 (.slice a' L L) L (bs (Zs.getD k []))) : CbRel w n Zs (k + 1) (w2.setCell ⟨w.heap.size, k, none⟩ (.slice a' L L)) := by
  subst hL
  obtain ⟨vs, hl, hy, he, hbel, hsz⟩ := h
  have hy2 := (ownsRow_below hy hb).stored k (.slice a' (Zs.getD k []).length (Zs.getD k []).length)
  have hs2 := hb.size
  refine ⟨vs ++ [.slice a' (Zs.getD k []).length (Zs.getD k []).length], by simp [hl], ?_, ?_, ?_, by simp; omega⟩
  · have e : n - k = (n - (k + 1)) + 1 := by omega
    have e2 : (vs ++ List.replicate (n - k) (Value.slice none 0 0)).set k (.slice a' (Zs.getD k []).length (Zs.getD k []).length) =
        (vs ++ [.slice a' (Zs.getD k []).length (Zs.getD k []).length]) ++ List.replicate (n - (k + 1)) (Value.slice none 0 0) := by
      rw [e, List.replicate_succ, List.set_append_right _ _ (by omega)]
      simp [hl]
    rw [← e2]
    exact hy2.1
  · intro i hi
    have keep : ∀ {ai : Option Addr} {m : Nat} {xs : List Value} {base : Nat}, w.heap.size < base → w2.ownsRow base 5 1 (.slice ai m m) m xs → (w2.setCell ⟨w.heap.size, k, none⟩ (.slice a' (Zs.getD k []).length (Zs.getD k []).length)).ownsRow (w.heap.size + 1) 5 1 (.slice ai m m) m xs := by
      intro ai m xs base hlt h
      exact ownsRow_setCell_below (ownsRow_weaken h (by omega)) (by simp) _
    by_cases hik : i < k
    · obtain ⟨ai, e, ho'⟩ := he i hik
      exact ⟨ai, by rw [List.getElem?_append_left (by omega)]; exact e, keep (by omega) (ownsRow_below ho' hb)⟩
    · obtain rfl : i = k := by omega
      exact ⟨a', by rw [List.getElem?_append_right (by omega)]; simp [hl], keep hsz ho⟩
  · exact (hbel.trans (hb.mono (by omega))).setCell (Nat.le_refl _) _

set_option maxHeartbeats 400000 in
theorem copyBlocks_some (x : Addr) (n c : Nat) (Zs : List (List Int)) (w : World) (hr : RdBB w (some x) Zs) (hz : Zs.length = n) (hb : n ≤ 65536) (hsz : ∀ i, i < n → (Zs.getD i []).length ≤ 1048576) :
    Calls Try.prog 10 #[.slice (some x) n c] w fun e w' => e = .returned (.slice (some ⟨w.heap.size, 0, none⟩) n n) ∧ OwnBB w' w.heap.size (.slice (some ⟨w.heap.size, 0, none⟩) n n) Zs ∧ Below w.heap.size w w' := by
  have q := eqlNil 22 23 Try.underlying22
  obtain ⟨i0, hi, hz0, hz1, hz2⟩ := info_parts info23
  obtain ⟨b, off, h1, h2⟩ := hr
  go_enter Try.func10, Try.ntmps10
  go_wp2_with (at_make; refine wpList_make_full _ rfl _ _ 22 rfl w.heap.size 23 i0 (.slice none 0 0) 1 Try.underlying22 hi hz0 hz1 _ _ _ _ n rfl rfl rfl rfl (by rw [hz2]; omega) (by unfold maxLen; omega) (Nat.le_refl _) ?_)
  intro w1 hown hgrow
  have hR : CbRel w n Zs 0 w1 := ⟨[], rfl, by simpa [nils_made] using hown, fun i hi => by omega, grownBy_below hgrow, by
    have := hown.lt _ (rfl : Value.ownBlock _ = _); omega⟩
  clear hown hgrow
  go_wp2
  go_loopw [4] (fun i wr => ∃ k : Nat, k ≤ n ∧ i = .int .i64 k ∧ CbRel w n Zs k wr) (fun i _ => n - (intOf i).toNat)
  case atStart => exact ⟨0, Nat.zero_le _, rfl, hR⟩
  case round =>
    clear hR
    obtain ⟨k, hk, rfl, hR⟩ := hrel
    by_cases hlt : k < n
    · obtain rfl : x = ⟨b, off, none⟩ := by simpa using h1 (by omega)
      obtain ⟨ai, ci, hc0, q1, q2, q3, hrk⟩ := h2 k (by omega)
      have hbel := hR.bel
      have hblt : b < w.heap.size := World.block_lt_of_cell? _ _ hc0
      have hcx : wr.cell? ⟨b, off + k, none⟩ = some (.slice ai (Zs.getD k []).length ci) := (hbel.cell (p := ⟨b, off + k, none⟩) hblt).trans hc0
      have hrk' := hrk.below hbel
      have hLb := hsz k hlt
      obtain ⟨L, hL⟩ : ∃ L, (Zs.getD k []).length = L := ⟨_, rfl⟩
      rw [hL] at hcx q2 hLb
      have HL := hid (hL)
      have HR := hid (hR)
      have HK := hid (hrk')
      clear hL hR hrk hrk' hc0 h2 hsz hbel
      go_wp2_with fail
      refine (copyBytes_any ai L ci _ _ HK.out HL.out q1 q2 (by omega)).mono ?_
      rintro e w2 ⟨a', rfl, ho, hb2⟩
      obtain ⟨hcy, hfy⟩ := HR.out.cell hlt hb2
      have HS := hid (HR.out.step hlt HL.out hb2 ho)
      clear ho hb2
      go_wp2
      go_roundw
      case rel => exact ⟨k + 1, by omega, by go_num, HS.out⟩
      case measure => simp [intOf]; omega
    · go_wp2
      go_ret
      obtain rfl : k = n := by omega
      obtain ⟨vs, hl, hy, he, hbel, _⟩ := hR
      refine ⟨rfl, ⟨vs, by simpa [hz] using hy, fun i hi => ?_⟩, hbel⟩
      obtain ⟨ai, e, ho⟩ := he i (by omega)
      exact ⟨ai, _, e, ownsRow_weaken ho (by omega)⟩

theorem copyBlocks_any (a : Option Addr) (n c : Nat) (Zs : List (List Int)) (w : World) (hr : RdBB w a Zs) (hz : Zs.length = n) (hn : a = none → c = 0) (hc : n ≤ c) (hb : n ≤ 65536) (hsz : ∀ i, i < n → (Zs.getD i []).length ≤ 1048576) :
    Calls Try.prog 10 #[.slice a n c] w fun e w' => ∃ a', e = .returned (.slice a' n n) ∧ OwnBB w' w.heap.size (.slice a' n n) Zs ∧ Below w.heap.size w w' := by
  cases a with
  | none =>
    obtain rfl := hn rfl
    obtain rfl : n = 0 := by omega
    obtain rfl := List.eq_nil_of_length_eq_zero hz
    refine (copyBlocks_nil w).mono ?_
    rintro e w' ⟨rfl, rfl⟩
    exact ⟨none, rfl, ⟨[], World.ownsRow_nil _ _ _ _, fun i hi => by simp at hi⟩, Below.refl _ _⟩
  | some x =>
    refine (copyBlocks_some x n c Zs w hr hz hb hsz).mono ?_
    rintro e w' ⟨rfl, h1, h2⟩
    exact ⟨_, rfl, h1, h2⟩

end Go.Proofs.Qxb6601469a

/-
  THE WALK of textOf (12).
-/
import Derived.Test.Qxb6601469aCopy
namespace Go.Proofs.Qxb6601469a
open Go.RowKit

theorem flat_succ (Zs : List (List Int)) (k : Nat) (h : k < Zs.length) : (Zs.take (k + 1)).flatten = (Zs.take k).flatten ++ Zs.getD k [] := by
  rw [List.take_succ_eq_append_getElem h, List.flatten_append, List.flatten_singleton]
  simp [List.getD, h]

theorem flat_le (Zs : List (List Int)) (k : Nat) : (Zs.take k).flatten.length ≤ Zs.flatten.length := by
  conv => rhs; rw [← List.take_append_drop k Zs]
  simp only [List.flatten_append, List.length_append]
  omega

theorem flat_room (Zs : List (List Int)) (k : Nat) (h : k < Zs.length) : (Zs.take k).flatten.length + (Zs.getD k []).length ≤ Zs.flatten.length := by
  have := flat_le Zs (k + 1)
  rw [flat_succ Zs k h] at this
  simpa using this

theorem one_cell (W : World) (z : Int) (t : TypeId) : ∀ j u, [Value.int IntKind.u8 z][j]? = some u → (W.alloc (.cells #[.int .u8 z] t)).cell? ((⟨W.heap.size, 0, none⟩ : Addr).add j) = some u := cell_one_new _ _ _

theorem app_below {B : Nat} {w wr w1 : World} {o : Obj} {e : TypeId} {v : Value} {n : Nat} {xs : List Value} (hb : Below B w wr) (hB : B ≤ wr.heap.size) (ho : wr.ownsRow B e 1 v n xs) (hg : (wr.alloc o).grownBy w1 v.ownBlock) : Below B w w1 :=
  (hb.alloc hB o).grown hg (by simp; omega) (fun k hk => (ho.lt k hk).1)

theorem oneCellList (z : Int) : ∀ u ∈ [Value.int IntKind.u8 z], u.oneCell' = true := by
  intro u hu; simp at hu; subst hu; rfl

/-- What textOf and its like hand back: a slice of the call's own that reads as T. -/
def Made (w : World) (T : List Int) (e : Ending) (w' : World) : Prop := ∃ v, e = .returned v ∧ w'.ownsRow w.heap.size 5 1 v T.length (bs T) ∧ Below w.heap.size w w'

set_option maxHeartbeats 1600000 in
theorem textOf_any (a : Option Addr) (n c : Nat) (Zs : List (List Int)) (w : World) (hr : RdBB w a Zs) (hz : Zs.length = n)
    (la : Option Addr) (ln lc : Nat) (zs : List Int) (hl : RdB w la zs) (hlz : zs.length = ln) (hn : n ≤ 65537) (hT : Zs.flatten.length + ln ≤ 4294967296) :
    Calls Try.prog 12 #[.slice a n c, .slice la ln lc] w (Made w (Zs.flatten ++ zs)) := by
  obtain ⟨i0, hi, hz0, hz1, hz2⟩ := info_parts info5
  obtain ⟨b, off, h1, h2⟩ := hr
  subst hz
  go_enter Try.func12, Try.ntmps12
  go_wp2
  go_loop [5, 6] (fun t i => ∃ k : Nat, k ≤ Zs.length ∧ i = .int .i64 k ∧ t = .int .i64 ((ln + (Zs.take k).flatten.length : Nat) : Int)) (fun _ i => Zs.length - (intOf i).toNat)
  case atStart => exact ⟨0, Nat.zero_le _, rfl, by simp⟩
  case round =>
    obtain ⟨k, hk, rfl, rfl⟩ := hrel
    have hfl := flat_le Zs k
    by_cases hlt : k < Zs.length
    · obtain rfl := h1 (by omega)
      obtain ⟨ai, ci, hc0, q1, q2, q3, hrk⟩ := h2 k (by omega)
      have hro := flat_room Zs k (by omega)
      have hsu := congrArg List.length (flat_succ Zs k (by omega))
      rw [List.length_append] at hsu
      generalize (Zs.getD k []).length = L at hc0 q2 hro hsu
      generalize (Zs.take k).flatten.length = M at *
      have HS := hid hsu
      clear hrk h2 hsu
      go_wp2
      go_round
      case rel => exact ⟨k + 1, by omega, by go_num, by rw [HS.out]; go_num⟩
      case measure => simp [intOf]; omega
    · obtain rfl : k = Zs.length := by omega
      clear hfl
      rw [List.take_length]
      go_wp2_with (at_make; refine wpList_make_own _ rfl _ _ 23 rfl w.heap.size 5 i0 (.int .u8 0) 1 Try.underlying23 hi hz0 hz1 _ _ _ (ln + Zs.flatten.length) rfl rfl rfl (by rw [hz2]; omega) (by unfold maxLen; omega) (Nat.le_refl _) ?_)
      intro w1 hown hgrow
      have hbel := grownBy_below hgrow
      clear hgrow
      go_wp2
      go_loopw [7, 8] (fun t i wr => ∃ k : Nat, k ≤ Zs.length ∧ i = .int .i64 k ∧ wr.ownsRow w.heap.size 5 1 t (Zs.take k).flatten.length (bs (Zs.take k).flatten) ∧ Below w.heap.size w wr) (fun _ i _ => Zs.length - (intOf i).toNat)
      case atStart => exact ⟨0, Nat.zero_le _, rfl, by simpa [bs] using hown, hbel⟩
      case round =>
        clear hown hbel
        obtain ⟨k, hk, rfl, hown, hbel⟩ := hrel
        by_cases hlt : k < Zs.length
        · obtain rfl := h1 (by omega)
          obtain ⟨ai, ci, hc0, q1, q2, q3, hrk⟩ := h2 k (by omega)
          have hblt : b < w.heap.size := World.block_lt_of_cell? _ _ hc0
          have hcx : wr.cell? ⟨b, off + k, none⟩ = some (.slice ai (Zs.getD k []).length ci) := (hbel.cell (p := ⟨b, off + k, none⟩) hblt).trans hc0
          have hro := flat_room Zs k (by omega)
          have hsu := hid (flat_succ Zs k (by omega))
          obtain ⟨bk, hbk⟩ : ∃ bk, Zs.getD k [] = bk := ⟨_, rfl⟩
          obtain ⟨pre, hpre⟩ : ∃ pre, (Zs.take k).flatten = pre := ⟨_, rfl⟩
          rw [hbk, hpre] at hsu
          rw [hbk] at hcx q2 hrk hro
          rw [hpre] at hown hro
          obtain ⟨L, hL⟩ : ∃ L, bk.length = L := ⟨_, rfl⟩
          rw [hL] at hcx q2 hro
          obtain ⟨c1, c2, c3, c4⟩ := hrk
          have HB := hid hbk
          have HP := hid hpre
          clear hc0 h2 hbk hpre
          obtain ⟨wo, rfl⟩ : ∃ wo : World, wo = wr := ⟨_, rfl⟩
          go_wp2
          go_loopw [7, 10] (fun t i wr => ∃ j : Nat, j ≤ L ∧ i = .int .i64 j ∧ wr.ownsRow w.heap.size 5 1 t (pre.length + j) (bs (pre ++ bk.take j)) ∧ Below w.heap.size w wr) (fun _ i _ => L - (intOf i).toNat)
          case atStart => exact ⟨0, Nat.zero_le _, rfl, by simpa [bs] using hown, hbel⟩
          case round =>
            clear hown hbel hcx
            obtain ⟨j, hj, rfl, hown, hbel⟩ := hrel
            by_cases hjl : j < L
            · obtain rfl := c3 (by omega)
              have hd0 := c4 j (by omega)
              have hclt : c1 < w.heap.size := World.block_lt_of_cell? _ _ hd0
              have hd : wr.cell? ⟨c1, c2 + j, none⟩ = some (.int .u8 (bk.getD j 0)) := (hbel.cell (p := ⟨c1, c2 + j, none⟩) hclt).trans hd0
              have hsn := hid (take_snoc bk j (by omega))
              generalize bk.getD j 0 = z at hd hsn
              have hws := hbel.size
              clear hd0 c4
              go_wp2_with (at_builtin; refine wpList_append_own _ rfl _ _ 23 rfl w.heap.size 5 i0 (.int .u8 0) 1 1 Try.underlying23 hi hz0 hz1 hz2 rfl (by decide) _ _ _ rfl (hown.alloc _) ⟨wr.heap.size, 0, none⟩ 1 1 [.int .u8 z] rfl rfl (cell_one_new _ _ _) (oneCellList z) (by unfold maxLen; omega) (by omega) (by simp; omega) ?_)
              intro v' w1 hown' hgrow _
              have hbel' := app_below hbel hws hown hgrow
              have hown2 : w1.ownsRow w.heap.size 5 1 v' (pre.length + (j + 1)) (bs (pre ++ bk.take (j + 1))) := by
                rw [hsn.out, ← List.append_assoc, bs_append]
                exact hown'
              clear hgrow hown' hown hbel hd
              go_wp2
              go_roundw
              case rel => exact ⟨j + 1, by omega, by go_num, hown2, hbel'⟩
              case measure => simp [intOf]; omega
            · clear c4
              go_wp2
              go_roundw
              case rel =>
                refine ⟨k + 1, by omega, by go_num, ?_, hbel⟩
                rw [hsu.out]
                obtain rfl : j = L := by omega
                rw [List.take_of_length_le (by omega)] at hown
                rw [List.length_append, hL]
                exact hown
              case measure => simp [intOf]; omega
        · clear h2
          obtain rfl : k = Zs.length := by omega
          rw [List.take_length] at hown
          obtain ⟨pre, hpre⟩ : ∃ pre, Zs.flatten = pre := ⟨_, rfl⟩
          rw [hpre] at hown
          have hT2 : pre.length + ln ≤ 4294967296 := by rw [← hpre]; exact hT
          have HP := hid hpre
          obtain ⟨c1, c2, c3, c4⟩ := hl
          clear hpre hT
          obtain ⟨wo, rfl⟩ : ∃ wo : World, wo = wr := ⟨_, rfl⟩
          go_wp2
          go_loopw [7, 11] (fun t i wr => ∃ j : Nat, j ≤ ln ∧ i = .int .i64 j ∧ wr.ownsRow w.heap.size 5 1 t (pre.length + j) (bs (pre ++ zs.take j)) ∧ Below w.heap.size w wr) (fun _ i _ => ln - (intOf i).toNat)
          case atStart => exact ⟨0, Nat.zero_le _, rfl, by simpa [bs] using hown, hbel⟩
          case round =>
            clear hown hbel
            obtain ⟨j, hj, rfl, hown, hbel⟩ := hrel
            by_cases hjl : j < ln
            · obtain rfl := c3 (by omega)
              have hd0 := c4 j (by omega)
              have hclt : c1 < w.heap.size := World.block_lt_of_cell? _ _ hd0
              have hd : wr.cell? ⟨c1, c2 + j, none⟩ = some (.int .u8 (zs.getD j 0)) := (hbel.cell (p := ⟨c1, c2 + j, none⟩) hclt).trans hd0
              have hsn := hid (take_snoc zs j (by omega))
              generalize zs.getD j 0 = z at hd hsn
              have hws := hbel.size
              clear hd0 c4
              go_wp2_with (at_builtin; refine wpList_append_own _ rfl _ _ 23 rfl w.heap.size 5 i0 (.int .u8 0) 1 1 Try.underlying23 hi hz0 hz1 hz2 rfl (by decide) _ _ _ rfl (hown.alloc _) ⟨wr.heap.size, 0, none⟩ 1 1 [.int .u8 z] rfl rfl (cell_one_new _ _ _) (oneCellList z) (by unfold maxLen; omega) (by omega) (by simp; omega) ?_)
              intro v' w1 hown' hgrow _
              have hbel' := app_below hbel hws hown hgrow
              have hown2 : w1.ownsRow w.heap.size 5 1 v' (pre.length + (j + 1)) (bs (pre ++ zs.take (j + 1))) := by
                rw [hsn.out, ← List.append_assoc, bs_append]
                exact hown'
              clear hgrow hown' hown hbel hd
              go_wp2
              go_roundw
              case rel => first | exact ⟨j + 1, by omega, by go_num, hown2, hbel'⟩ | ((repeat apply Exists.intro); exact ⟨⟨j + 1, by omega, by go_num, hown2, hbel'⟩, rfl⟩)
              case measure => simp [intOf]; omega
            · clear c4
              obtain rfl : j = ln := by omega
              rw [List.take_of_length_le (by omega)] at hown
              go_wp2
              go_ret
              refine ⟨_, rfl, ?_, hbel⟩
              rw [HP.out, List.length_append, hlz]
              exact hown

end Go.Proofs.Qxb6601469a

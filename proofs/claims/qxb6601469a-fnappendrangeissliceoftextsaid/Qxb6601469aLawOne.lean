/-
  THE WALK of the law FnAppendRangeIsSliceOfText (3).
-/
import Derived.Test.Qxb6601469aRange
namespace Go.Proofs.Qxb6601469a
open Go.RowKit

set_option maxHeartbeats 1600000 in
theorem law1_walk (fa : Option Addr) (fc : Nat) (Zs : List (List Int)) (la : Option Addr) (lc : Nat) (zs : List Int) (da : Option Addr) (dc : Nat) (ds : List Int) (s e : Int) (w : World)
    (hF : RdBB w fa Zs) (hF0 : fa = none → fc = 0) (hF1 : Zs.length ≤ fc) (hF2 : fc ≤ maxLen)
    (hL : RdB w la zs) (hL0 : la = none → lc = 0) (hL1 : zs.length ≤ lc) (hL2 : lc ≤ maxLen)
    (hD : RdB w da ds) (hD0 : da = none → dc = 0) (hD1 : ds.length ≤ dc) (hD2 : dc ≤ maxLen) :
    Calls Try.prog 3 #[.slice fa Zs.length fc, .slice la zs.length lc, .slice da ds.length dc, .int .i64 s, .int .i64 e] w (Yes w) := by
  obtain ⟨i0, hi0, hz0, hz1, hz2⟩ := info_parts info5
  unfold maxLen at hF2 hL2 hD2
  go_enter Try.func3, Try.ntmps3
  go_wp2_with fail
  refine (zz7_any fa _ fc Zs w hF rfl (by unfold maxLen; omega) la _ lc da _ dc (by unfold maxLen; omega) (by unfold maxLen; omega) s e).mono ?_
  rintro e1 w' ⟨r, rfl, -, rfl⟩
  cases r
  · go_wp2
    go_ret
    exact ⟨rfl, Below.refl _ _⟩
  go_wp2_with fail
  refine (sizeOK_any fa _ fc Zs w' hF rfl (by unfold maxLen; omega) la _ lc da _ dc (by unfold maxLen; omega) (by unfold maxLen; omega)).mono ?_
  rintro e1 w ⟨r, rfl, hsize, rfl⟩
  cases r
  · go_wp2
    go_ret
    exact ⟨rfl, Below.refl _ _⟩
  obtain ⟨hn, hln, hdn⟩ := hsize rfl
  clear hsize
  go_wp2_with fail
  refine (blocksOK_any fa _ fc Zs _ hF rfl (by omega)).mono ?_
  rintro e1 w2 ⟨r, rfl, hwh, rfl⟩
  cases r
  · go_wp2
    go_ret
    exact ⟨rfl, Below.refl _ _⟩
  have hW := hwh.1 rfl
  clear hwh
  by_cases hlast : zs.length ≤ 32768
  case neg =>
    go_wp2_with fail
    go_ret
    exact ⟨rfl, Below.refl _ _⟩
  have hdec1 : decide (32768 < (zs.length : Int)) = false := by simp; omega
  by_cases hse : s < e
  · by_cases hs0 : 0 ≤ s
    case neg =>
      go_wp2_with fail
      go_ret
      exact ⟨rfl, Below.refl _ _⟩
    by_cases he : e ≤ Zs.length * 32768 + zs.length
    case neg =>
      go_wp2_with fail
      go_ret
      exact ⟨rfl, Below.refl _ _⟩
    have hdec2 : decide (s < 0) = false := by simp; omega
    have hdec3 : decide ((Zs.length : Int) * 32768 + (zs.length : Int) < e) = false := by simp; omega
    have hwl : ∀ i, i < Zs.length → (Zs.getD i []).length ≤ 1048576 := fun i hi => by rw [hW i hi]; omega
    have hTl : Hid ((Zs.flatten ++ zs).length = Zs.length * 32768 + zs.length) := hid (by rw [List.length_append, flat_len Zs hW])
    obtain ⟨s0, rfl⟩ := Int.eq_ofNat_of_zero_le hs0
    obtain ⟨e0, rfl⟩ := Int.eq_ofNat_of_zero_le (show 0 ≤ e by omega)
    go_wp2_with fail
    refine (copyBlocks_any fa _ fc Zs _ hF rfl hF0 hF1 hn hwl).mono ?_
    rintro e1 w1 ⟨fa', rfl, hO, hb1⟩
    obtain ⟨fa2, fc2, hv, hF', _⟩ := hO.rd
    simp only [Value.slice.injEq, true_and] at hv
    obtain ⟨rfl, rfl⟩ := hv
    replace hL := hL.below hb1
    replace hD := hD.below hb1
    clear hO hF hwl
    go_wp2_with fail
    refine (copyBytes_any la _ lc zs _ hL rfl hL0 hL1 (by omega)).mono ?_
    rintro e1 w2 ⟨la', rfl, hO, hb2⟩
    obtain ⟨_, la2, lc2, hv, hL', _⟩ := own_rd hO
    simp only [Value.slice.injEq, true_and] at hv
    obtain ⟨rfl, rfl⟩ := hv
    replace hF' := hF'.below hb2
    replace hD := hD.below hb2
    replace hb2 := hb1.trans (hb2.mono hb1.size)
    clear hO hL hb1
    go_wp2_with fail
    refine (copyBytes_any da _ dc ds _ hD rfl hD0 hD1 (by omega)).mono ?_
    rintro e1 w3 ⟨da', rfl, hO, hb3⟩
    obtain ⟨_, da2, dc2, hv, hD', _, _, hD0', _⟩ := own_rd hO
    simp only [Value.slice.injEq, true_and] at hv
    obtain ⟨rfl, rfl⟩ := hv
    replace hF' := hF'.below hb3
    replace hL' := hL'.below hb3
    replace hb3 := hb2.trans (hb3.mono hb2.size)
    clear hO hD hb2
    go_wp2_with fail
    refine (textOf_any fa' _ _ Zs _ hF' rfl la' _ _ zs hL' rfl (by omega) (by rw [flat_len Zs hW]; omega)).mono ?_
    rintro e1 w4 ⟨tv, rfl, hO, hb4⟩
    obtain ⟨_, ta, tc, hv, hT, _⟩ := own_rd hO
    rw [hTl.out] at hv
    subst hv
    replace hF' := hF'.below hb4
    replace hL' := hL'.below hb4
    replace hD' := hD'.below hb4
    replace hb4 := hb3.trans (hb4.mono hb3.size)
    clear hO hb3
    go_wp2_with fail
    go_loopg [13, 14] ds.length (fun g v i wr => ∃ k : Nat, g = ds.length - k ∧ k ≤ ds.length ∧ i = .int .i64 k ∧ Dst w4 (ds.take k) v wr)
    case atStart => exact ⟨0, rfl, Nat.zero_le _, rfl, Dst.nil _⟩
    case round =>
      obtain ⟨k, hg, hk, rfl, hR⟩ := hrel
      have HG := hid hg
      clear hg
      by_cases hlt : k < ds.length
      · obtain ⟨db, dof, d1, d2⟩ := hD'.below hR.bel
        obtain rfl := d1 (by omega)
        have hc := d2 k hlt
        have hsn := hid (take_snoc ds k hlt)
        have hkl : (ds.take k).length = k := by simp; omega
        generalize ds.getD k 0 = z at hc hsn
        have HD := hid hD'
        clear d2 hD'
        have HK := hid hkl
        generalize ds.take k = cur at *
        clear hkl
        go_wp2_with (at_builtin; refine wpList_append_dst _ rfl _ _ rfl _ _ rfl (hR.alloc _) ⟨wr.heap.size, 0, none⟩ 1 1 [z] rfl ?_ ?_ ?_ ?_ ?_)
        · have := HK.out; omega
        · intro v' w' hR'
          rw [← hsn.out] at hR'
          clear hR hsn hc
          go_wp2
          go_roundg (ds.length - (k + 1))
          case measure => have := HG.out; omega
          case rel => exact ⟨k + 1, rfl, by omega, by go_num, hR'⟩
      · obtain rfl : k = ds.length := by omega
        rw [List.take_length] at hR
        clear HG
        go_wp2
        go_loopg [13, 15] (e0 - s0) (fun g v i wr => ∃ k : Nat, g = e0 - k ∧ s0 ≤ k ∧ k ≤ e0 ∧ i = .int .i64 k ∧ Dst w4 (ds ++ ((T Zs zs).drop s0).take (k - s0)) v wr)
        case atStart => exact ⟨s0, rfl, Nat.le_refl _, by omega, rfl, by simpa using hR⟩
        case round =>
          clear hR
          obtain ⟨k, hg, hk1, hk2, rfl, hR⟩ := hrel
          have HG := hid hg
          clear hg
          by_cases hlt : k < e0
          · obtain ⟨tb, tof, t1, t2⟩ := hT.below hR.bel
            obtain rfl := t1 (by rw [hTl.out]; omega)
            have hc := t2 k (by rw [hTl.out]; omega)
            have hsn : Hid (ds ++ ((T Zs zs).drop s0).take (k + 1 - s0) = (ds ++ ((T Zs zs).drop s0).take (k - s0)) ++ [(Zs.flatten ++ zs).getD k 0]) := hid (by
              have hkT : k < (Zs.flatten ++ zs).length := by rw [hTl.out]; omega
              rw [seg_next _ _ _ _ hk1, List.append_assoc]
              congr 2
              unfold T
              rw [List.drop_eq_getElem_cons hkT, List.take_succ_cons, List.take_zero]
              simp [List.getD, List.getElem?_eq_getElem hkT])
            have hkl : (ds ++ ((T Zs zs).drop s0).take (k - s0)).length ≤ 1099511627776 := by
              rw [List.length_append, List.length_take]; omega
            generalize (Zs.flatten ++ zs).getD k 0 = z at hc hsn
            have HT := hid hT
            clear t2 hT
            generalize ds ++ ((T Zs zs).drop s0).take (k - s0) = cur at *
            go_wp2_with (at_builtin; refine wpList_append_dst _ rfl _ _ rfl _ _ rfl (hR.alloc _) ⟨wr.heap.size, 0, none⟩ 1 1 [z] rfl ?_ ?_ ?_ ?_ ?_)
            · omega
            · intro v' w' hR'
              rw [← hsn.out] at hR'
              clear hR hsn hc
              go_wp2
              go_roundg (e0 - (k + 1))
              case measure => have := HG.out; omega
              case rel => exact ⟨k + 1, rfl, by omega, by omega, by go_num, hR'⟩
          · obtain rfl : k = e0 := by omega
            have hRg : rangeOf Zs zs ds s0 k = ds ++ ((T Zs zs).drop s0).take (k - s0) := by
              unfold rangeOf; rw [if_pos hse]; rfl
            have hkl : (ds ++ ((T Zs zs).drop s0).take (k - s0)).length ≤ 1099511627776 := by
              rw [List.length_append, List.length_take]; omega
            generalize ds ++ ((T Zs zs).drop s0).take (k - s0) = L at *
            have HRg := hid hRg
            have hbw := hR.bel
            obtain ⟨wa, wc, rfl, hWt⟩ := hR.rd
            clear hRg hR
            go_wp2_with fail
            refine (zzAppendRange_any fa' _ Zs la' _ zs wr da' ds s0 k (hF'.below hbw) (hL'.below hbw) (Nat.le_refl _) (hD'.below hbw) hD0' (fun _ => ⟨by omega, by omega⟩) hW hlast hn (by omega)).mono ?_
            rintro e1 w5 ⟨v, rfl, ga, gc, hv, hg5, hb5⟩
            rw [HRg.out] at hv hg5
            subst hv
            have hW5 := hWt.below hb5
            replace hb5 := hb4.trans ((hbw.trans (hb5.mono hbw.size)).mono hb4.size)
            go_wp2_with fail
            refine (sameBytes_yes ga wa _ gc wc L w5 hg5 hW5 rfl (by omega)).mono ?_
            rintro e1 w6 ⟨rfl, hb6⟩
            go_wp2
            go_ret
            exact ⟨rfl, hb5.trans (hb6.mono hb5.size)⟩
  · have hwl : ∀ i, i < Zs.length → (Zs.getD i []).length ≤ 1048576 := fun i hi => by rw [hW i hi]; omega
    have hTl : Hid ((Zs.flatten ++ zs).length = Zs.length * 32768 + zs.length) := hid (by rw [List.length_append, flat_len Zs hW])
    go_wp2_with fail
    refine (copyBlocks_any fa _ fc Zs _ hF rfl hF0 hF1 hn hwl).mono ?_
    rintro e1 w1 ⟨fa', rfl, hO, hb1⟩
    obtain ⟨fa2, fc2, hv, hF', _⟩ := hO.rd
    simp only [Value.slice.injEq, true_and] at hv
    obtain ⟨rfl, rfl⟩ := hv
    replace hL := hL.below hb1
    replace hD := hD.below hb1
    clear hO hF hwl
    go_wp2_with fail
    refine (copyBytes_any la _ lc zs _ hL rfl hL0 hL1 (by omega)).mono ?_
    rintro e1 w2 ⟨la', rfl, hO, hb2⟩
    obtain ⟨_, la2, lc2, hv, hL', _⟩ := own_rd hO
    simp only [Value.slice.injEq, true_and] at hv
    obtain ⟨rfl, rfl⟩ := hv
    replace hF' := hF'.below hb2
    replace hD := hD.below hb2
    replace hb2 := hb1.trans (hb2.mono hb1.size)
    clear hO hL hb1
    go_wp2_with fail
    refine (copyBytes_any da _ dc ds _ hD rfl hD0 hD1 (by omega)).mono ?_
    rintro e1 w3 ⟨da', rfl, hO, hb3⟩
    obtain ⟨_, da2, dc2, hv, hD', _, _, hD0', _⟩ := own_rd hO
    simp only [Value.slice.injEq, true_and] at hv
    obtain ⟨rfl, rfl⟩ := hv
    replace hF' := hF'.below hb3
    replace hL' := hL'.below hb3
    replace hb3 := hb2.trans (hb3.mono hb2.size)
    clear hO hD hb2
    go_wp2_with fail
    refine (textOf_any fa' _ _ Zs _ hF' rfl la' _ _ zs hL' rfl (by omega) (by rw [flat_len Zs hW]; omega)).mono ?_
    rintro e1 w4 ⟨tv, rfl, hO, hb4⟩
    obtain ⟨_, ta, tc, hv, hT, _⟩ := own_rd hO
    rw [hTl.out] at hv
    subst hv
    replace hF' := hF'.below hb4
    replace hL' := hL'.below hb4
    replace hD' := hD'.below hb4
    replace hb4 := hb3.trans (hb4.mono hb3.size)
    clear hO hb3
    go_wp2_with fail
    go_loopg [13, 14] ds.length (fun g v i wr => ∃ k : Nat, g = ds.length - k ∧ k ≤ ds.length ∧ i = .int .i64 k ∧ Dst w4 (ds.take k) v wr)
    case atStart => exact ⟨0, rfl, Nat.zero_le _, rfl, Dst.nil _⟩
    case round =>
      obtain ⟨k, hg, hk, rfl, hR⟩ := hrel
      have HG := hid hg
      clear hg
      by_cases hlt : k < ds.length
      · obtain ⟨db, dof, d1, d2⟩ := hD'.below hR.bel
        obtain rfl := d1 (by omega)
        have hc := d2 k hlt
        have hsn := hid (take_snoc ds k hlt)
        have hkl : (ds.take k).length = k := by simp; omega
        generalize ds.getD k 0 = z at hc hsn
        have HD := hid hD'
        clear d2 hD'
        have HK := hid hkl
        generalize ds.take k = cur at *
        clear hkl
        go_wp2_with (at_builtin; refine wpList_append_dst _ rfl _ _ rfl _ _ rfl (hR.alloc _) ⟨wr.heap.size, 0, none⟩ 1 1 [z] rfl ?_ ?_ ?_ ?_ ?_)
        · have := HK.out; omega
        · intro v' w' hR'
          rw [← hsn.out] at hR'
          clear hR hsn hc
          go_wp2
          go_roundg (ds.length - (k + 1))
          case measure => have := HG.out; omega
          case rel => exact ⟨k + 1, rfl, by omega, by go_num, hR'⟩
      · obtain rfl : k = ds.length := by omega
        rw [List.take_length] at hR
        clear HG
        have hRg : rangeOf Zs zs ds s e = ds := by unfold rangeOf; rw [if_neg (by omega)]
        have HRg := hid hRg
        have hbw := hR.bel
        obtain ⟨wa, wc, rfl, hWt⟩ := hR.rd
        clear hRg hR
        go_wp2_with fail
        refine (zzAppendRange_any fa' _ Zs la' _ zs wr da' ds s e (hF'.below hbw) (hL'.below hbw) (Nat.le_refl _) (hD'.below hbw) hD0' (fun h => absurd h (by omega)) hW hlast hn (by omega)).mono ?_
        rintro e1 w5 ⟨v, rfl, ga, gc, hv, hg5, hb5⟩
        rw [HRg.out] at hv hg5
        subst hv
        have hW5 := hWt.below hb5
        replace hb5 := hb4.trans ((hbw.trans (hb5.mono hbw.size)).mono hb4.size)
        go_wp2_with fail
        refine (sameBytes_yes ga wa _ gc wc ds w5 hg5 hW5 rfl (by omega)).mono ?_
        rintro e1 w6 ⟨rfl, hb6⟩
        go_wp2
        go_ret
        exact ⟨rfl, hb5.trans (hb6.mono hb5.size)⟩

end Go.Proofs.Qxb6601469a

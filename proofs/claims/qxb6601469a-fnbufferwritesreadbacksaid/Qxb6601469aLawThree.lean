/-
  THE WALK of the law FnBufferWritesReadBack (6).
-/
import Derived.Test.Qxb6601469aLoop
namespace Go.Proofs.Qxb6601469a
open Go.RowKit

set_option maxHeartbeats 6000000 in
theorem law3_walk (da : Option Addr) (dc : Nat) (zs : List Int) (s e : Int) (w : World)
    (hD : RdB w da zs) (hD0 : da = none → dc = 0) (hD1 : zs.length ≤ dc) (hD2 : dc ≤ maxLen) :
    Calls Try.prog 6 #[.slice da zs.length dc, .int .i64 s, .int .i64 e] w (Yes w) := by
  obtain ⟨i0, hi0, hz0, hz1, hz2⟩ := info_parts info5
  unfold maxLen at hD2
  go_enter Try.func6, Try.ntmps6
  go_wp2_with fail
  refine (zz19_any da _ dc s e w (by unfold maxLen; omega)).mono ?_
  rintro e1 w' ⟨r, rfl, -, rfl⟩
  cases r
  · go_wp2
    go_ret
    exact ⟨rfl, Below.refl _ _⟩
  by_cases hn : zs.length ≤ 1048576
  case neg =>
    go_wp2_with fail
    go_ret
    exact ⟨rfl, Below.refl _ _⟩
  have hdn : decide (1048576 < (zs.length : Int)) = false := by rw [decide_eq_false_iff_not]; omega
  by_cases hse : s < e
  · by_cases hs0 : 0 ≤ s
    case neg =>
      go_wp2_with fail
      go_ret
      exact ⟨rfl, Below.refl _ _⟩
    by_cases he : e ≤ (zs.length : Int)
    case neg =>
      go_wp2_with fail
      go_ret
      exact ⟨rfl, Below.refl _ _⟩
    have hdec2 : decide (s < 0) = false := by simp; omega
    have hdec3 : decide ((zs.length : Int) < e) = false := by simp; omega
    obtain ⟨s0, rfl⟩ := Int.eq_ofNat_of_zero_le hs0
    obtain ⟨e0, rfl⟩ := Int.eq_ofNat_of_zero_le (show 0 ≤ e by omega)
    go_wp2_with fail
    refine (copyBytes_any da _ dc zs _ hD rfl hD0 hD1 (by omega)).mono ?_
    rintro e1 w1 ⟨da', rfl, hO, hb1⟩
    have hD' := own_rdAt hO
    clear hO hD
    go_wp2_with fail
    go_loopg [8, 9, 10] zs.length (fun g fv lv i wr => ∃ k : Nat, g = zs.length - k ∧ k ≤ zs.length ∧ i = .int .i64 k ∧ St w1 zs k fv lv wr)
    case atStart => exact ⟨0, rfl, Nat.zero_le _, rfl, St.start _ _⟩
    case round =>
      obtain ⟨k, hg, hk, rfl, hS⟩ := hrel
      have HG := hid hg
      clear hg
      obtain ⟨la, ln, lc, rfl⟩ : ∃ la ln lc, u9 = .slice la ln lc := by
        obtain ⟨_, la, lz, lc, h, _⟩ := hS
        exact ⟨la, _, lc, h⟩
      by_cases hlt : k < zs.length
      · by_cases hfull : ln = lc
        · have hdec : ((ln : Int) == (lc : Int)) = true := by rw [beq_iff_eq]; omega
          obtain ⟨fa, nf, fc, lz, hfv, hll, hr, hnf, hl32, hcases⟩ := hS.full hfull (by omega)
          subst hfv
          subst hll
          have HF := hid hfull
          clear hfull hS
          have H32 := hid hl32
          clear hl32
          rcases hcases with ⟨h0, hA⟩ | ⟨h0, hnf0, hc, hBf⟩ | ⟨h0, h1, hsz, vs, hvo, hC⟩
          · subst h0
            obtain rfl : lz = [] := List.eq_nil_of_length_eq_zero HF.out
            have HA := hid hA
            clear hA hr
            go_wp2_with fail
            clear hdec
            refine (zzGrow_a fa nf fc la _).mono ?_
            rintro e1 w2 ⟨g2, he1, q3, q4, q5⟩
            have hM := HA.out g2 w2 q3 q4 q5
            obtain ⟨ct, hct⟩ : ∃ ct : Nat, ct = 1024 := ⟨_, rfl⟩
            rw [← hct] at he1 hM
            subst he1
            have HM := hid hM
            clear hct hM HA q3 q4 q5
            have hm := HM.out.own
            obtain ⟨ho, hlc, hbW⟩ := hm
            obtain ⟨db, dof, d1, d2⟩ := hD'.below hbW
            obtain rfl := d1 (by omega)
            have hc := d2 k hlt
            obtain ⟨z, hz⟩ : ∃ z, zs.getD k 0 = z := ⟨_, rfl⟩
            rw [hz] at hc
            have HZ := hid hz
            clear d2 hz hbW
            go_wp2_with (at_builtin; refine wpList_append_fits _ rfl _ _ 23 rfl w1.heap.size 5 i0 1 Try.underlying23 hi0 hz1 g2 ([] : List Int).length ct (bs ([] : List Int)) rfl (ho.alloc _) ⟨w2.heap.size, 0, none⟩ 1 1 [.int .u8 z] rfl rfl (cell_one_new _ _ _) (oneCellList z) (by omega) ?_)
            intro w9 ho9 hg9
            have hS9 := HM.out.app hlt (by rw [HZ.out]; exact ho9) hg9
            clear ho9 hg9 ho hc
            go_wp2
            go_roundg (zs.length - (k + 1))
            case measure => have := HG.out; omega
            case rel => exact ⟨k + 1, rfl, by omega, by go_num, hS9⟩
          · have HB := hid hBf
            have HC := hid hc
            have HN := hid hnf0
            clear hBf hc hnf0
            go_wp2_with fail
            clear hdec
            refine (zzGrow_b fa nf fc HN.out la lc lz _ hr (by have := HF.out; omega) (by have := HF.out; omega) HC.out).mono ?_
            rintro e1 w2 ⟨g2, he1, q3, q4, q5⟩
            have hM := HB.out g2 w2 q3 q4 q5
            obtain ⟨ct, hct⟩ : ∃ ct : Nat, ct = 2 * lc := ⟨_, rfl⟩
            rw [← hct] at he1 hM
            subst he1
            have HM := hid hM
            clear hct hM HB q3 q4 q5 hr
            have hm := HM.out.own
            obtain ⟨ho, hlc, hbW⟩ := hm
            obtain ⟨db, dof, d1, d2⟩ := hD'.below hbW
            obtain rfl := d1 (by omega)
            have hc := d2 k hlt
            obtain ⟨z, hz⟩ : ∃ z, zs.getD k 0 = z := ⟨_, rfl⟩
            rw [hz] at hc
            have HZ := hid hz
            clear d2 hz hbW
            go_wp2_with (at_builtin; refine wpList_append_fits _ rfl _ _ 23 rfl w1.heap.size 5 i0 1 Try.underlying23 hi0 hz1 g2 lz.length ct (bs lz) rfl (ho.alloc _) ⟨w2.heap.size, 0, none⟩ 1 1 [.int .u8 z] rfl rfl (cell_one_new _ _ _) (oneCellList z) (by omega) ?_)
            intro w9 ho9 hg9
            have hS9 := HM.out.app hlt (by rw [HZ.out]; exact ho9) hg9
            clear ho9 hg9 ho hc
            go_wp2
            go_roundg (zs.length - (k + 1))
            case measure => have := HG.out; omega
            case rel => exact ⟨k + 1, rfl, by omega, by go_num, hS9⟩
          · have HC := hid hC
            have H1 := hid h1
            clear hC h1 hr
            go_wp2_with fail
            clear hdec
            refine (zzGrow_c w1.heap.size fa nf fc la _ lc vs _ hvo hsz h0 H1.out hnf (by have := H32.out; omega)).mono ?_
            rintro e1 w2 ⟨g, cap, g2, he1, q1, q2, q3, q4, q5⟩
            have hM := HC.out _ g2 w2 q3 q1 q4 q5
            obtain ⟨ct, hct⟩ : ∃ ct : Nat, ct = 32768 := ⟨_, rfl⟩
            rw [← hct] at he1 hM
            subst he1
            have HM := hid hM
            clear hct hM HC q1 q2 q3 q4 q5 hvo
            have hm := HM.out.own
            obtain ⟨ho, hlc, hbW⟩ := hm
            obtain ⟨db, dof, d1, d2⟩ := hD'.below hbW
            obtain rfl := d1 (by omega)
            have hc := d2 k hlt
            obtain ⟨z, hz⟩ : ∃ z, zs.getD k 0 = z := ⟨_, rfl⟩
            rw [hz] at hc
            have HZ := hid hz
            clear d2 hz hbW
            go_wp2_with (at_builtin; refine wpList_append_fits _ rfl _ _ 23 rfl w1.heap.size 5 i0 1 Try.underlying23 hi0 hz1 g2 ([] : List Int).length ct (bs ([] : List Int)) rfl (ho.alloc _) ⟨w2.heap.size, 0, none⟩ 1 1 [.int .u8 z] rfl rfl (cell_one_new _ _ _) (oneCellList z) (by omega) ?_)
            intro w9 ho9 hg9
            have hS9 := HM.out.app hlt (by rw [HZ.out]; exact ho9) hg9
            clear ho9 hg9 ho hc
            go_wp2
            go_roundg (zs.length - (k + 1))
            case measure => have := HG.out; omega
            case rel => exact ⟨k + 1, rfl, by omega, by go_num, hS9⟩
        · have hdec : ((ln : Int) == (lc : Int)) = false := by rw [beq_eq_false_iff_ne]; omega
          obtain ⟨g, lz, hll, rfl, hM⟩ := hS.room hfull
          subst hll
          have HM := hid hM
          clear hS hM hfull
          have hm := HM.out.own
          obtain ⟨ho, hlc, hbW⟩ := hm
          obtain ⟨db, dof, d1, d2⟩ := hD'.below hbW
          obtain rfl := d1 (by omega)
          have hc := d2 k hlt
          obtain ⟨z, hz⟩ : ∃ z, zs.getD k 0 = z := ⟨_, rfl⟩
          rw [hz] at hc
          have HZ := hid hz
          clear d2 hz hbW
          go_wp2_with (at_builtin; refine wpList_append_fits _ rfl _ _ 23 rfl w1.heap.size 5 i0 1 Try.underlying23 hi0 hz1 g lz.length lc (bs lz) rfl (ho.alloc _) ⟨wr.heap.size, 0, none⟩ 1 1 [.int .u8 z] rfl rfl (cell_one_new _ _ _) (oneCellList z) (by omega) ?_)
          intro w9 ho9 hg9
          have hS9 := HM.out.app hlt (by rw [HZ.out]; exact ho9) hg9
          clear ho9 hg9 ho hc
          go_wp2
          go_roundg (zs.length - (k + 1))
          case measure => have := HG.out; omega
          case rel => exact ⟨k + 1, rfl, by omega, by go_num, hS9⟩
      · obtain rfl : k = zs.length := by omega
        obtain ⟨Zs, la', lz, lc', hv, hB, h1, h2, h3, h4, h5, h6⟩ := hS
        simp only [Value.slice.injEq] at hv
        obtain ⟨rfl, rfl, rfl⟩ := hv
        obtain ⟨fa, fc, hfv, hF, hL⟩ := hB.rd
        subst hfv
        rw [List.take_length] at h1
        have hl32 : lz.length ≤ 32768 := by unfold Cap at h3; omega
        have hnf : Zs.length ≤ 65536 := by omega
        have H1 := hid h1.symm
        have H3 := hid h3
        have H4 := hid h4
        have HTb : Hid (Zs.flatten.length + lz.length ≤ 4294967296) := hid (by rw [flat_len Zs h2]; omega)
        have hbT := hb1.trans (h6.mono hb1.size)
        have hDr := hD'.below h6
        have HLCp := hid h5
        clear hD' h1 h3 h4 h5 h6 hB HG hb1
        go_wp2_with fail
        refine (blocksOK_any fa _ fc Zs _ hF rfl (by omega)).mono ?_
        rintro e1 w7 ⟨r, rfl, hwh, rfl⟩
        obtain rfl : r = true := hwh.2 h2
        clear hwh
        by_cases hn0 : zs.length = 0
        · obtain ⟨c1, c2⟩ := H3.out.zero hn0
          have b1 : ((zs.length : Int) == 0) = true := by rw [beq_iff_eq]; omega
          have b2 : ((Zs.length : Int) != 0) = false := by rw [bne_eq_false_iff_eq]; omega
          have b3 : ((lc : Int) != 0) = false := by rw [bne_eq_false_iff_eq]; omega
          clear c1 c2 hn0
          have HLC : Hid (lz.length ≤ lc) := HLCp
          have hRg : rangeOf Zs lz [] s0 e0 = (zs.drop s0).take (e0 - s0) := by
            unfold rangeOf T; rw [if_pos hse, H1.out]; rfl
          have HRg := hid hRg
          have HRN : Hid ((s0 : Int) < (e0 : Int) → 0 ≤ (s0 : Int) ∧ (e0 : Int) ≤ Zs.length * 32768 + lz.length) := hid (fun _ => ⟨by omega, by have := H4.out; omega⟩)
          clear hRg
          go_wp2_with fail
          refine (textOf_any fa _ fc Zs _ hF rfl la _ lc lz hL rfl (by omega) HTb.out).mono ?_
          rintro e1 w8 ⟨tv, rfl, hO8, hb8⟩
          rw [H1.out] at hO8
          obtain ⟨-, ta, tc, rfl, hT8, -⟩ := own_rd hO8
          replace hF := hF.below hb8
          replace hL := hL.below hb8
          replace hDr := hDr.below hb8
          replace hbT := hbT.trans (hb8.mono hbT.size)
          clear hO8 hb8
          go_wp2_with fail
          refine (sameBytes_yes ta da' _ tc _ zs w8 hT8 hDr rfl (by omega)).mono ?_
          rintro e1 w9 ⟨rfl, hb9⟩
          replace hF := hF.below hb9
          replace hL := hL.below hb9
          replace hDr := hDr.below hb9
          replace hbT := hbT.trans (hb9.mono hbT.size)
          clear hb9 hT8
          go_wp2_with fail
          refine (zzAppendRange_nil fa fc Zs la lc lz _ s0 e0 hF hL HLC.out HRN.out h2 hl32 hnf).mono ?_
          rintro e1 w10 ⟨v, rfl, ga, gc, hv, hg10, hb10⟩
          rw [HRg.out] at hv hg10
          obtain ⟨gl, hgl⟩ : ∃ gl, ((zs.drop s0).take (e0 - s0)).length = gl := ⟨_, rfl⟩
          rw [hgl] at hv
          subst hv
          have HGL := hid hgl
          clear hgl
          replace hDr := hDr.below hb10
          replace hbT := hbT.trans (hb10.mono hbT.size)
          clear hb10 hF hL
          go_wp2
          go_loopg [13, 14] (e0 - s0) (fun g v i wr => ∃ k : Nat, g = e0 - k ∧ s0 ≤ k ∧ k ≤ e0 ∧ i = .int .i64 k ∧ Dst w10 ((zs.drop s0).take (k - s0)) v wr)
          case atStart => exact ⟨s0, rfl, Nat.le_refl _, by omega, rfl, by simpa using Dst.nil _⟩
          case round =>
            obtain ⟨k, hg, hk1, hk2, rfl, hR⟩ := hrel
            have HG := hid hg
            clear hg
            by_cases hlt : k < e0
            · obtain ⟨tb, tof, t1, t2⟩ := hDr.below hR.bel
              obtain rfl := t1 (by omega)
              have hc := t2 k (by omega)
              have hsn : Hid ((zs.drop s0).take (k + 1 - s0) = (zs.drop s0).take (k - s0) ++ [zs.getD k 0]) := hid (by
                have hkT : k < zs.length := by omega
                rw [seg_next _ _ _ _ hk1]
                congr 1
                rw [List.drop_eq_getElem_cons hkT, List.take_succ_cons, List.take_zero]
                simp [List.getD, List.getElem?_eq_getElem hkT])
              have hkl : ((zs.drop s0).take (k - s0)).length ≤ 1099511627776 := by
                rw [List.length_take]; omega
              obtain ⟨z, hz⟩ : ∃ z, zs.getD k 0 = z := ⟨_, rfl⟩
              rw [hz] at hc hsn
              obtain ⟨cur, hcur⟩ : ∃ cur, (zs.drop s0).take (k - s0) = cur := ⟨_, rfl⟩
              rw [hcur] at hsn hkl hR
              clear t2 hz hcur
              have HD := hid hDr
              clear hDr hdec3
              go_wp2_with (at_builtin; refine wpList_append_dst _ rfl _ _ rfl _ _ rfl (hR.alloc _) ⟨wr.heap.size, 0, none⟩ 1 1 [z] rfl ?_ ?_ ?_ ?_ ?_)
              · omega
              · intro v' w11 hR'
                rw [← hsn.out] at hR'
                clear hR hsn hc
                go_wp2
                go_roundg (e0 - (k + 1))
                case measure => have := HG.out; omega
                case rel => exact ⟨k + 1, rfl, by omega, by omega, by go_num, hR'⟩
            · obtain rfl : k = e0 := by omega
              have hkl : ((zs.drop s0).take (k - s0)).length ≤ 1099511627776 := by
                rw [List.length_take]; omega
              obtain ⟨L, hL⟩ : ∃ L, (zs.drop s0).take (k - s0) = L := ⟨_, rfl⟩
              have hLg : L.length = gl := by rw [← hL]; exact HGL.out
              rw [hL] at hR hkl hg10
              clear hL
              have hbw := hR.bel
              obtain ⟨wa, wc, hv2, hWt⟩ := hR.rd
              rw [hLg] at hv2 hkl
              subst hv2
              have HLg := hid hLg
              clear hLg
              have hg11 := hg10.below hbw
              replace hbT := hbT.trans (hbw.mono hbT.size)
              clear hR hg10 hbw hDr
              go_wp2_with fail
              refine (sameBytes_yes ga wa _ gc wc L wr hg11 hWt HLg.out (by omega)).mono ?_
              rintro e1 w12 ⟨rfl, hb12⟩
              go_wp2
              go_ret
              exact ⟨rfl, hbT.trans (hb12.mono hbT.size)⟩
        · have c1 := H3.out.blocks (by omega)
          have b1 : ((zs.length : Int) == 0) = false := by rw [beq_eq_false_iff_ne]; omega
          have b2 : ((Zs.length : Int) != ((zs.length : Int) - 1) / 32768) = false := by rw [bne_eq_false_iff_eq]; omega
          clear c1
          have hz1' : (1 : Int) ≤ (zs.length : Int) := by omega
          by_cases hnf0 : Zs.length = 0
          · have b3 : ((Zs.length : Int) == 0) = true := by rw [beq_iff_eq]; omega
            have HN := hid (And.intro hn0 hnf0)
            clear hn0 hnf0
            go_wp2
            go_loopg [11] (70000 - 1024) (fun g c wr => ∃ m : Nat, g = 70000 - m ∧ c = .int .i64 m ∧ Pow m ∧ m ≤ lc ∧ wr = w7)
            case atStart => exact ⟨1024, rfl, rfl, .inl rfl, H3.out.ge HN.out.1 HN.out.2, rfl⟩
            case round =>
              obtain ⟨m, hg, rfl, hp, hml, hwr⟩ := hrel
              subst hwr
              have hmb := hp.bd
              have HG := hid hg
              have HP := hid hp
              have HML := hid hml
              clear hg hp hml
              have hm1 : (m : Int) ≤ 65536 := hmb.2
              have hm0 : (0 : Int) ≤ (m : Int) := by omega
              have Hmb := hid hmb
              clear hmb
              by_cases hlt2 : m < zs.length
              · have hlt2' : (m : Int) < (zs.length : Int) := by omega
                have hnx := hid (H3.out.dbl HN.out.2 HP.out HML.out hlt2)
                clear hlt2
                go_wp2
                go_roundg (70000 - 2 * m)
                case measure => have := HG.out; have := Hmb.out; omega
                case rel => exact ⟨2 * m, rfl, by go_num, hnx.out.1, hnx.out.2, rfl⟩
              · have hlt2' : ¬ (m : Int) < (zs.length : Int) := by omega
                have b4 : ((lc : Int) != (m : Int)) = false := by
                  have := H3.out.eq HN.out.1 HN.out.2 HP.out HML.out hlt2
                  rw [bne_eq_false_iff_eq]; omega
                clear hlt2
                have HLC : Hid (lz.length ≤ lc) := HLCp
                have hRg : rangeOf Zs lz [] s0 e0 = (zs.drop s0).take (e0 - s0) := by
                  unfold rangeOf T; rw [if_pos hse, H1.out]; rfl
                have HRg := hid hRg
                have HRN : Hid ((s0 : Int) < (e0 : Int) → 0 ≤ (s0 : Int) ∧ (e0 : Int) ≤ Zs.length * 32768 + lz.length) := hid (fun _ => ⟨by omega, by have := H4.out; omega⟩)
                clear hRg
                go_wp2_with fail
                refine (textOf_any fa _ fc Zs _ hF rfl la _ lc lz hL rfl (by omega) HTb.out).mono ?_
                rintro e1 w8 ⟨tv, rfl, hO8, hb8⟩
                rw [H1.out] at hO8
                obtain ⟨-, ta, tc, rfl, hT8, -⟩ := own_rd hO8
                replace hF := hF.below hb8
                replace hL := hL.below hb8
                replace hDr := hDr.below hb8
                replace hbT := hbT.trans (hb8.mono hbT.size)
                clear hO8 hb8
                go_wp2_with fail
                refine (sameBytes_yes ta da' _ tc _ zs w8 hT8 hDr rfl (by omega)).mono ?_
                rintro e1 w9 ⟨rfl, hb9⟩
                replace hF := hF.below hb9
                replace hL := hL.below hb9
                replace hDr := hDr.below hb9
                replace hbT := hbT.trans (hb9.mono hbT.size)
                clear hb9 hT8
                go_wp2_with fail
                refine (zzAppendRange_nil fa fc Zs la lc lz _ s0 e0 hF hL HLC.out HRN.out h2 hl32 hnf).mono ?_
                rintro e1 w10 ⟨v, rfl, ga, gc, hv, hg10, hb10⟩
                rw [HRg.out] at hv hg10
                obtain ⟨gl, hgl⟩ : ∃ gl, ((zs.drop s0).take (e0 - s0)).length = gl := ⟨_, rfl⟩
                rw [hgl] at hv
                subst hv
                have HGL := hid hgl
                clear hgl
                replace hDr := hDr.below hb10
                replace hbT := hbT.trans (hb10.mono hbT.size)
                clear hb10 hF hL
                go_wp2
                go_loopg [13, 14] (e0 - s0) (fun g v i wr => ∃ k : Nat, g = e0 - k ∧ s0 ≤ k ∧ k ≤ e0 ∧ i = .int .i64 k ∧ Dst w10 ((zs.drop s0).take (k - s0)) v wr)
                case atStart => exact ⟨s0, rfl, Nat.le_refl _, by omega, rfl, by simpa using Dst.nil _⟩
                case round =>
                  obtain ⟨k, hg, hk1, hk2, rfl, hR⟩ := hrel
                  have HG := hid hg
                  clear hg
                  by_cases hlt : k < e0
                  · obtain ⟨tb, tof, t1, t2⟩ := hDr.below hR.bel
                    obtain rfl := t1 (by omega)
                    have hc := t2 k (by omega)
                    have hsn : Hid ((zs.drop s0).take (k + 1 - s0) = (zs.drop s0).take (k - s0) ++ [zs.getD k 0]) := hid (by
                      have hkT : k < zs.length := by omega
                      rw [seg_next _ _ _ _ hk1]
                      congr 1
                      rw [List.drop_eq_getElem_cons hkT, List.take_succ_cons, List.take_zero]
                      simp [List.getD, List.getElem?_eq_getElem hkT])
                    have hkl : ((zs.drop s0).take (k - s0)).length ≤ 1099511627776 := by
                      rw [List.length_take]; omega
                    obtain ⟨z, hz⟩ : ∃ z, zs.getD k 0 = z := ⟨_, rfl⟩
                    rw [hz] at hc hsn
                    obtain ⟨cur, hcur⟩ : ∃ cur, (zs.drop s0).take (k - s0) = cur := ⟨_, rfl⟩
                    rw [hcur] at hsn hkl hR
                    clear t2 hz hcur
                    have HD := hid hDr
                    clear hDr hdec3
                    go_wp2_with (at_builtin; refine wpList_append_dst _ rfl _ _ rfl _ _ rfl (hR.alloc _) ⟨wr.heap.size, 0, none⟩ 1 1 [z] rfl ?_ ?_ ?_ ?_ ?_)
                    · omega
                    · intro v' w11 hR'
                      rw [← hsn.out] at hR'
                      clear hR hsn hc
                      go_wp2
                      go_roundg (e0 - (k + 1))
                      case measure => have := HG.out; omega
                      case rel => exact ⟨k + 1, rfl, by omega, by omega, by go_num, hR'⟩
                  · obtain rfl : k = e0 := by omega
                    have hkl : ((zs.drop s0).take (k - s0)).length ≤ 1099511627776 := by
                      rw [List.length_take]; omega
                    obtain ⟨L, hL⟩ : ∃ L, (zs.drop s0).take (k - s0) = L := ⟨_, rfl⟩
                    have hLg : L.length = gl := by rw [← hL]; exact HGL.out
                    rw [hL] at hR hkl hg10
                    clear hL
                    have hbw := hR.bel
                    obtain ⟨wa, wc, hv2, hWt⟩ := hR.rd
                    rw [hLg] at hv2 hkl
                    subst hv2
                    have HLg := hid hLg
                    clear hLg
                    have hg11 := hg10.below hbw
                    replace hbT := hbT.trans (hbw.mono hbT.size)
                    clear hR hg10 hbw hDr
                    go_wp2_with fail
                    refine (sameBytes_yes ga wa _ gc wc L wr hg11 hWt HLg.out (by omega)).mono ?_
                    rintro e1 w12 ⟨rfl, hb12⟩
                    go_wp2
                    go_ret
                    exact ⟨rfl, hbT.trans (hb12.mono hbT.size)⟩
          · have b3 : ((Zs.length : Int) == 0) = false := by rw [beq_eq_false_iff_ne]; omega
            have b4 : ((lc : Int) != 32768) = false := by
              have := H3.out.big hnf0
              rw [bne_eq_false_iff_eq]; omega
            clear hnf0 hn0
            have HLC : Hid (lz.length ≤ lc) := HLCp
            have hRg : rangeOf Zs lz [] s0 e0 = (zs.drop s0).take (e0 - s0) := by
              unfold rangeOf T; rw [if_pos hse, H1.out]; rfl
            have HRg := hid hRg
            have HRN : Hid ((s0 : Int) < (e0 : Int) → 0 ≤ (s0 : Int) ∧ (e0 : Int) ≤ Zs.length * 32768 + lz.length) := hid (fun _ => ⟨by omega, by have := H4.out; omega⟩)
            clear hRg
            go_wp2_with fail
            refine (textOf_any fa _ fc Zs _ hF rfl la _ lc lz hL rfl (by omega) HTb.out).mono ?_
            rintro e1 w8 ⟨tv, rfl, hO8, hb8⟩
            rw [H1.out] at hO8
            obtain ⟨-, ta, tc, rfl, hT8, -⟩ := own_rd hO8
            replace hF := hF.below hb8
            replace hL := hL.below hb8
            replace hDr := hDr.below hb8
            replace hbT := hbT.trans (hb8.mono hbT.size)
            clear hO8 hb8
            go_wp2_with fail
            refine (sameBytes_yes ta da' _ tc _ zs w8 hT8 hDr rfl (by omega)).mono ?_
            rintro e1 w9 ⟨rfl, hb9⟩
            replace hF := hF.below hb9
            replace hL := hL.below hb9
            replace hDr := hDr.below hb9
            replace hbT := hbT.trans (hb9.mono hbT.size)
            clear hb9 hT8
            go_wp2_with fail
            refine (zzAppendRange_nil fa fc Zs la lc lz _ s0 e0 hF hL HLC.out HRN.out h2 hl32 hnf).mono ?_
            rintro e1 w10 ⟨v, rfl, ga, gc, hv, hg10, hb10⟩
            rw [HRg.out] at hv hg10
            obtain ⟨gl, hgl⟩ : ∃ gl, ((zs.drop s0).take (e0 - s0)).length = gl := ⟨_, rfl⟩
            rw [hgl] at hv
            subst hv
            have HGL := hid hgl
            clear hgl
            replace hDr := hDr.below hb10
            replace hbT := hbT.trans (hb10.mono hbT.size)
            clear hb10 hF hL
            go_wp2
            go_loopg [13, 14] (e0 - s0) (fun g v i wr => ∃ k : Nat, g = e0 - k ∧ s0 ≤ k ∧ k ≤ e0 ∧ i = .int .i64 k ∧ Dst w10 ((zs.drop s0).take (k - s0)) v wr)
            case atStart => exact ⟨s0, rfl, Nat.le_refl _, by omega, rfl, by simpa using Dst.nil _⟩
            case round =>
              obtain ⟨k, hg, hk1, hk2, rfl, hR⟩ := hrel
              have HG := hid hg
              clear hg
              by_cases hlt : k < e0
              · obtain ⟨tb, tof, t1, t2⟩ := hDr.below hR.bel
                obtain rfl := t1 (by omega)
                have hc := t2 k (by omega)
                have hsn : Hid ((zs.drop s0).take (k + 1 - s0) = (zs.drop s0).take (k - s0) ++ [zs.getD k 0]) := hid (by
                  have hkT : k < zs.length := by omega
                  rw [seg_next _ _ _ _ hk1]
                  congr 1
                  rw [List.drop_eq_getElem_cons hkT, List.take_succ_cons, List.take_zero]
                  simp [List.getD, List.getElem?_eq_getElem hkT])
                have hkl : ((zs.drop s0).take (k - s0)).length ≤ 1099511627776 := by
                  rw [List.length_take]; omega
                obtain ⟨z, hz⟩ : ∃ z, zs.getD k 0 = z := ⟨_, rfl⟩
                rw [hz] at hc hsn
                obtain ⟨cur, hcur⟩ : ∃ cur, (zs.drop s0).take (k - s0) = cur := ⟨_, rfl⟩
                rw [hcur] at hsn hkl hR
                clear t2 hz hcur
                have HD := hid hDr
                clear hDr hdec3
                go_wp2_with (at_builtin; refine wpList_append_dst _ rfl _ _ rfl _ _ rfl (hR.alloc _) ⟨wr.heap.size, 0, none⟩ 1 1 [z] rfl ?_ ?_ ?_ ?_ ?_)
                · omega
                · intro v' w11 hR'
                  rw [← hsn.out] at hR'
                  clear hR hsn hc
                  go_wp2
                  go_roundg (e0 - (k + 1))
                  case measure => have := HG.out; omega
                  case rel => exact ⟨k + 1, rfl, by omega, by omega, by go_num, hR'⟩
              · obtain rfl : k = e0 := by omega
                have hkl : ((zs.drop s0).take (k - s0)).length ≤ 1099511627776 := by
                  rw [List.length_take]; omega
                obtain ⟨L, hL⟩ : ∃ L, (zs.drop s0).take (k - s0) = L := ⟨_, rfl⟩
                have hLg : L.length = gl := by rw [← hL]; exact HGL.out
                rw [hL] at hR hkl hg10
                clear hL
                have hbw := hR.bel
                obtain ⟨wa, wc, hv2, hWt⟩ := hR.rd
                rw [hLg] at hv2 hkl
                subst hv2
                have HLg := hid hLg
                clear hLg
                have hg11 := hg10.below hbw
                replace hbT := hbT.trans (hbw.mono hbT.size)
                clear hR hg10 hbw hDr
                go_wp2_with fail
                refine (sameBytes_yes ga wa _ gc wc L wr hg11 hWt HLg.out (by omega)).mono ?_
                rintro e1 w12 ⟨rfl, hb12⟩
                go_wp2
                go_ret
                exact ⟨rfl, hbT.trans (hb12.mono hbT.size)⟩
  · go_wp2_with fail
    refine (copyBytes_any da _ dc zs _ hD rfl hD0 hD1 (by omega)).mono ?_
    rintro e1 w1 ⟨da', rfl, hO, hb1⟩
    have hD' := own_rdAt hO
    clear hO hD
    go_wp2_with fail
    go_loopg [8, 9, 10] zs.length (fun g fv lv i wr => ∃ k : Nat, g = zs.length - k ∧ k ≤ zs.length ∧ i = .int .i64 k ∧ St w1 zs k fv lv wr)
    case atStart => exact ⟨0, rfl, Nat.zero_le _, rfl, St.start _ _⟩
    case round =>
      obtain ⟨k, hg, hk, rfl, hS⟩ := hrel
      have HG := hid hg
      clear hg
      obtain ⟨la, ln, lc, rfl⟩ : ∃ la ln lc, u9 = .slice la ln lc := by
        obtain ⟨_, la, lz, lc, h, _⟩ := hS
        exact ⟨la, _, lc, h⟩
      by_cases hlt : k < zs.length
      · by_cases hfull : ln = lc
        · have hdec : ((ln : Int) == (lc : Int)) = true := by rw [beq_iff_eq]; omega
          obtain ⟨fa, nf, fc, lz, hfv, hll, hr, hnf, hl32, hcases⟩ := hS.full hfull (by omega)
          subst hfv
          subst hll
          have HF := hid hfull
          clear hfull hS
          have H32 := hid hl32
          clear hl32
          rcases hcases with ⟨h0, hA⟩ | ⟨h0, hnf0, hc, hBf⟩ | ⟨h0, h1, hsz, vs, hvo, hC⟩
          · subst h0
            obtain rfl : lz = [] := List.eq_nil_of_length_eq_zero HF.out
            have HA := hid hA
            clear hA hr
            go_wp2_with fail
            clear hdec
            refine (zzGrow_a fa nf fc la _).mono ?_
            rintro e1 w2 ⟨g2, he1, q3, q4, q5⟩
            have hM := HA.out g2 w2 q3 q4 q5
            obtain ⟨ct, hct⟩ : ∃ ct : Nat, ct = 1024 := ⟨_, rfl⟩
            rw [← hct] at he1 hM
            subst he1
            have HM := hid hM
            clear hct hM HA q3 q4 q5
            have hm := HM.out.own
            obtain ⟨ho, hlc, hbW⟩ := hm
            obtain ⟨db, dof, d1, d2⟩ := hD'.below hbW
            obtain rfl := d1 (by omega)
            have hc := d2 k hlt
            obtain ⟨z, hz⟩ : ∃ z, zs.getD k 0 = z := ⟨_, rfl⟩
            rw [hz] at hc
            have HZ := hid hz
            clear d2 hz hbW
            go_wp2_with (at_builtin; refine wpList_append_fits _ rfl _ _ 23 rfl w1.heap.size 5 i0 1 Try.underlying23 hi0 hz1 g2 ([] : List Int).length ct (bs ([] : List Int)) rfl (ho.alloc _) ⟨w2.heap.size, 0, none⟩ 1 1 [.int .u8 z] rfl rfl (cell_one_new _ _ _) (oneCellList z) (by omega) ?_)
            intro w9 ho9 hg9
            have hS9 := HM.out.app hlt (by rw [HZ.out]; exact ho9) hg9
            clear ho9 hg9 ho hc
            go_wp2
            go_roundg (zs.length - (k + 1))
            case measure => have := HG.out; omega
            case rel => exact ⟨k + 1, rfl, by omega, by go_num, hS9⟩
          · have HB := hid hBf
            have HC := hid hc
            have HN := hid hnf0
            clear hBf hc hnf0
            go_wp2_with fail
            clear hdec
            refine (zzGrow_b fa nf fc HN.out la lc lz _ hr (by have := HF.out; omega) (by have := HF.out; omega) HC.out).mono ?_
            rintro e1 w2 ⟨g2, he1, q3, q4, q5⟩
            have hM := HB.out g2 w2 q3 q4 q5
            obtain ⟨ct, hct⟩ : ∃ ct : Nat, ct = 2 * lc := ⟨_, rfl⟩
            rw [← hct] at he1 hM
            subst he1
            have HM := hid hM
            clear hct hM HB q3 q4 q5 hr
            have hm := HM.out.own
            obtain ⟨ho, hlc, hbW⟩ := hm
            obtain ⟨db, dof, d1, d2⟩ := hD'.below hbW
            obtain rfl := d1 (by omega)
            have hc := d2 k hlt
            obtain ⟨z, hz⟩ : ∃ z, zs.getD k 0 = z := ⟨_, rfl⟩
            rw [hz] at hc
            have HZ := hid hz
            clear d2 hz hbW
            go_wp2_with (at_builtin; refine wpList_append_fits _ rfl _ _ 23 rfl w1.heap.size 5 i0 1 Try.underlying23 hi0 hz1 g2 lz.length ct (bs lz) rfl (ho.alloc _) ⟨w2.heap.size, 0, none⟩ 1 1 [.int .u8 z] rfl rfl (cell_one_new _ _ _) (oneCellList z) (by omega) ?_)
            intro w9 ho9 hg9
            have hS9 := HM.out.app hlt (by rw [HZ.out]; exact ho9) hg9
            clear ho9 hg9 ho hc
            go_wp2
            go_roundg (zs.length - (k + 1))
            case measure => have := HG.out; omega
            case rel => exact ⟨k + 1, rfl, by omega, by go_num, hS9⟩
          · have HC := hid hC
            have H1 := hid h1
            clear hC h1 hr
            go_wp2_with fail
            clear hdec
            refine (zzGrow_c w1.heap.size fa nf fc la _ lc vs _ hvo hsz h0 H1.out hnf (by have := H32.out; omega)).mono ?_
            rintro e1 w2 ⟨g, cap, g2, he1, q1, q2, q3, q4, q5⟩
            have hM := HC.out _ g2 w2 q3 q1 q4 q5
            obtain ⟨ct, hct⟩ : ∃ ct : Nat, ct = 32768 := ⟨_, rfl⟩
            rw [← hct] at he1 hM
            subst he1
            have HM := hid hM
            clear hct hM HC q1 q2 q3 q4 q5 hvo
            have hm := HM.out.own
            obtain ⟨ho, hlc, hbW⟩ := hm
            obtain ⟨db, dof, d1, d2⟩ := hD'.below hbW
            obtain rfl := d1 (by omega)
            have hc := d2 k hlt
            obtain ⟨z, hz⟩ : ∃ z, zs.getD k 0 = z := ⟨_, rfl⟩
            rw [hz] at hc
            have HZ := hid hz
            clear d2 hz hbW
            go_wp2_with (at_builtin; refine wpList_append_fits _ rfl _ _ 23 rfl w1.heap.size 5 i0 1 Try.underlying23 hi0 hz1 g2 ([] : List Int).length ct (bs ([] : List Int)) rfl (ho.alloc _) ⟨w2.heap.size, 0, none⟩ 1 1 [.int .u8 z] rfl rfl (cell_one_new _ _ _) (oneCellList z) (by omega) ?_)
            intro w9 ho9 hg9
            have hS9 := HM.out.app hlt (by rw [HZ.out]; exact ho9) hg9
            clear ho9 hg9 ho hc
            go_wp2
            go_roundg (zs.length - (k + 1))
            case measure => have := HG.out; omega
            case rel => exact ⟨k + 1, rfl, by omega, by go_num, hS9⟩
        · have hdec : ((ln : Int) == (lc : Int)) = false := by rw [beq_eq_false_iff_ne]; omega
          obtain ⟨g, lz, hll, rfl, hM⟩ := hS.room hfull
          subst hll
          have HM := hid hM
          clear hS hM hfull
          have hm := HM.out.own
          obtain ⟨ho, hlc, hbW⟩ := hm
          obtain ⟨db, dof, d1, d2⟩ := hD'.below hbW
          obtain rfl := d1 (by omega)
          have hc := d2 k hlt
          obtain ⟨z, hz⟩ : ∃ z, zs.getD k 0 = z := ⟨_, rfl⟩
          rw [hz] at hc
          have HZ := hid hz
          clear d2 hz hbW
          go_wp2_with (at_builtin; refine wpList_append_fits _ rfl _ _ 23 rfl w1.heap.size 5 i0 1 Try.underlying23 hi0 hz1 g lz.length lc (bs lz) rfl (ho.alloc _) ⟨wr.heap.size, 0, none⟩ 1 1 [.int .u8 z] rfl rfl (cell_one_new _ _ _) (oneCellList z) (by omega) ?_)
          intro w9 ho9 hg9
          have hS9 := HM.out.app hlt (by rw [HZ.out]; exact ho9) hg9
          clear ho9 hg9 ho hc
          go_wp2
          go_roundg (zs.length - (k + 1))
          case measure => have := HG.out; omega
          case rel => exact ⟨k + 1, rfl, by omega, by go_num, hS9⟩
      · obtain rfl : k = zs.length := by omega
        obtain ⟨Zs, la', lz, lc', hv, hB, h1, h2, h3, h4, h5, h6⟩ := hS
        simp only [Value.slice.injEq] at hv
        obtain ⟨rfl, rfl, rfl⟩ := hv
        obtain ⟨fa, fc, hfv, hF, hL⟩ := hB.rd
        subst hfv
        rw [List.take_length] at h1
        have hl32 : lz.length ≤ 32768 := by unfold Cap at h3; omega
        have hnf : Zs.length ≤ 65536 := by omega
        have H1 := hid h1.symm
        have H3 := hid h3
        have H4 := hid h4
        have HTb : Hid (Zs.flatten.length + lz.length ≤ 4294967296) := hid (by rw [flat_len Zs h2]; omega)
        have hbT := hb1.trans (h6.mono hb1.size)
        have hDr := hD'.below h6
        have HLCp := hid h5
        clear hD' h1 h3 h4 h5 h6 hB HG hb1
        go_wp2_with fail
        refine (blocksOK_any fa _ fc Zs _ hF rfl (by omega)).mono ?_
        rintro e1 w7 ⟨r, rfl, hwh, rfl⟩
        obtain rfl : r = true := hwh.2 h2
        clear hwh
        by_cases hn0 : zs.length = 0
        · obtain ⟨c1, c2⟩ := H3.out.zero hn0
          have b1 : ((zs.length : Int) == 0) = true := by rw [beq_iff_eq]; omega
          have b2 : ((Zs.length : Int) != 0) = false := by rw [bne_eq_false_iff_eq]; omega
          have b3 : ((lc : Int) != 0) = false := by rw [bne_eq_false_iff_eq]; omega
          clear c1 c2 hn0
          have HLC : Hid (lz.length ≤ lc) := HLCp
          have hRg : rangeOf Zs lz [] s e = [] := by unfold rangeOf; rw [if_neg (by omega)]
          have HRg := hid hRg
          have HRN : Hid (s < e → 0 ≤ s ∧ e ≤ Zs.length * 32768 + lz.length) := hid (fun h => absurd h (by omega))
          clear hRg
          go_wp2_with fail
          refine (textOf_any fa _ fc Zs _ hF rfl la _ lc lz hL rfl (by omega) HTb.out).mono ?_
          rintro e1 w8 ⟨tv, rfl, hO8, hb8⟩
          rw [H1.out] at hO8
          obtain ⟨-, ta, tc, rfl, hT8, -⟩ := own_rd hO8
          replace hF := hF.below hb8
          replace hL := hL.below hb8
          replace hDr := hDr.below hb8
          replace hbT := hbT.trans (hb8.mono hbT.size)
          clear hO8 hb8
          go_wp2_with fail
          refine (sameBytes_yes ta da' _ tc _ zs w8 hT8 hDr rfl (by omega)).mono ?_
          rintro e1 w9 ⟨rfl, hb9⟩
          replace hF := hF.below hb9
          replace hL := hL.below hb9
          replace hDr := hDr.below hb9
          replace hbT := hbT.trans (hb9.mono hbT.size)
          clear hb9 hT8
          go_wp2_with fail
          refine (zzAppendRange_nil fa fc Zs la lc lz _ s e hF hL HLC.out HRN.out h2 hl32 hnf).mono ?_
          rintro e1 w10 ⟨v, rfl, ga, gc, hv, hg10, hb10⟩
          rw [HRg.out] at hv hg10
          subst hv
          replace hDr := hDr.below hb10
          replace hbT := hbT.trans (hb10.mono hbT.size)
          clear hb10 hF hL
          go_wp2_with fail
          refine (sameBytes_yes ga none 0 gc 0 [] w10 hg10 ⟨0, 0, fun h => by simp at h, fun i hi => by simp at hi⟩ rfl (by omega)).mono ?_
          rintro e1 w12 ⟨rfl, hb12⟩
          go_wp2
          go_ret
          exact ⟨rfl, hbT.trans (hb12.mono hbT.size)⟩
        · have c1 := H3.out.blocks (by omega)
          have b1 : ((zs.length : Int) == 0) = false := by rw [beq_eq_false_iff_ne]; omega
          have b2 : ((Zs.length : Int) != ((zs.length : Int) - 1) / 32768) = false := by rw [bne_eq_false_iff_eq]; omega
          clear c1
          have hz1' : (1 : Int) ≤ (zs.length : Int) := by omega
          by_cases hnf0 : Zs.length = 0
          · have b3 : ((Zs.length : Int) == 0) = true := by rw [beq_iff_eq]; omega
            have HN := hid (And.intro hn0 hnf0)
            clear hn0 hnf0
            go_wp2
            go_loopg [11] (70000 - 1024) (fun g c wr => ∃ m : Nat, g = 70000 - m ∧ c = .int .i64 m ∧ Pow m ∧ m ≤ lc ∧ wr = w7)
            case atStart => exact ⟨1024, rfl, rfl, .inl rfl, H3.out.ge HN.out.1 HN.out.2, rfl⟩
            case round =>
              obtain ⟨m, hg, rfl, hp, hml, hwr⟩ := hrel
              subst hwr
              have hmb := hp.bd
              have HG := hid hg
              have HP := hid hp
              have HML := hid hml
              clear hg hp hml
              have hm1 : (m : Int) ≤ 65536 := hmb.2
              have hm0 : (0 : Int) ≤ (m : Int) := by omega
              have Hmb := hid hmb
              clear hmb
              by_cases hlt2 : m < zs.length
              · have hlt2' : (m : Int) < (zs.length : Int) := by omega
                have hnx := hid (H3.out.dbl HN.out.2 HP.out HML.out hlt2)
                clear hlt2
                go_wp2
                go_roundg (70000 - 2 * m)
                case measure => have := HG.out; have := Hmb.out; omega
                case rel => exact ⟨2 * m, rfl, by go_num, hnx.out.1, hnx.out.2, rfl⟩
              · have hlt2' : ¬ (m : Int) < (zs.length : Int) := by omega
                have b4 : ((lc : Int) != (m : Int)) = false := by
                  have := H3.out.eq HN.out.1 HN.out.2 HP.out HML.out hlt2
                  rw [bne_eq_false_iff_eq]; omega
                clear hlt2
                have HLC : Hid (lz.length ≤ lc) := HLCp
                have hRg : rangeOf Zs lz [] s e = [] := by unfold rangeOf; rw [if_neg (by omega)]
                have HRg := hid hRg
                have HRN : Hid (s < e → 0 ≤ s ∧ e ≤ Zs.length * 32768 + lz.length) := hid (fun h => absurd h (by omega))
                clear hRg
                go_wp2_with fail
                refine (textOf_any fa _ fc Zs _ hF rfl la _ lc lz hL rfl (by omega) HTb.out).mono ?_
                rintro e1 w8 ⟨tv, rfl, hO8, hb8⟩
                rw [H1.out] at hO8
                obtain ⟨-, ta, tc, rfl, hT8, -⟩ := own_rd hO8
                replace hF := hF.below hb8
                replace hL := hL.below hb8
                replace hDr := hDr.below hb8
                replace hbT := hbT.trans (hb8.mono hbT.size)
                clear hO8 hb8
                go_wp2_with fail
                refine (sameBytes_yes ta da' _ tc _ zs w8 hT8 hDr rfl (by omega)).mono ?_
                rintro e1 w9 ⟨rfl, hb9⟩
                replace hF := hF.below hb9
                replace hL := hL.below hb9
                replace hDr := hDr.below hb9
                replace hbT := hbT.trans (hb9.mono hbT.size)
                clear hb9 hT8
                go_wp2_with fail
                refine (zzAppendRange_nil fa fc Zs la lc lz _ s e hF hL HLC.out HRN.out h2 hl32 hnf).mono ?_
                rintro e1 w10 ⟨v, rfl, ga, gc, hv, hg10, hb10⟩
                rw [HRg.out] at hv hg10
                subst hv
                replace hDr := hDr.below hb10
                replace hbT := hbT.trans (hb10.mono hbT.size)
                clear hb10 hF hL
                go_wp2_with fail
                refine (sameBytes_yes ga none 0 gc 0 [] w10 hg10 ⟨0, 0, fun h => by simp at h, fun i hi => by simp at hi⟩ rfl (by omega)).mono ?_
                rintro e1 w12 ⟨rfl, hb12⟩
                go_wp2
                go_ret
                exact ⟨rfl, hbT.trans (hb12.mono hbT.size)⟩
          · have b3 : ((Zs.length : Int) == 0) = false := by rw [beq_eq_false_iff_ne]; omega
            have b4 : ((lc : Int) != 32768) = false := by
              have := H3.out.big hnf0
              rw [bne_eq_false_iff_eq]; omega
            clear hnf0 hn0
            have HLC : Hid (lz.length ≤ lc) := HLCp
            have hRg : rangeOf Zs lz [] s e = [] := by unfold rangeOf; rw [if_neg (by omega)]
            have HRg := hid hRg
            have HRN : Hid (s < e → 0 ≤ s ∧ e ≤ Zs.length * 32768 + lz.length) := hid (fun h => absurd h (by omega))
            clear hRg
            go_wp2_with fail
            refine (textOf_any fa _ fc Zs _ hF rfl la _ lc lz hL rfl (by omega) HTb.out).mono ?_
            rintro e1 w8 ⟨tv, rfl, hO8, hb8⟩
            rw [H1.out] at hO8
            obtain ⟨-, ta, tc, rfl, hT8, -⟩ := own_rd hO8
            replace hF := hF.below hb8
            replace hL := hL.below hb8
            replace hDr := hDr.below hb8
            replace hbT := hbT.trans (hb8.mono hbT.size)
            clear hO8 hb8
            go_wp2_with fail
            refine (sameBytes_yes ta da' _ tc _ zs w8 hT8 hDr rfl (by omega)).mono ?_
            rintro e1 w9 ⟨rfl, hb9⟩
            replace hF := hF.below hb9
            replace hL := hL.below hb9
            replace hDr := hDr.below hb9
            replace hbT := hbT.trans (hb9.mono hbT.size)
            clear hb9 hT8
            go_wp2_with fail
            refine (zzAppendRange_nil fa fc Zs la lc lz _ s e hF hL HLC.out HRN.out h2 hl32 hnf).mono ?_
            rintro e1 w10 ⟨v, rfl, ga, gc, hv, hg10, hb10⟩
            rw [HRg.out] at hv hg10
            subst hv
            replace hDr := hDr.below hb10
            replace hbT := hbT.trans (hb10.mono hbT.size)
            clear hb10 hF hL
            go_wp2_with fail
            refine (sameBytes_yes ga none 0 gc 0 [] w10 hg10 ⟨0, 0, fun h => by simp at h, fun i hi => by simp at hi⟩ rfl (by omega)).mono ?_
            rintro e1 w12 ⟨rfl, hb12⟩
            go_wp2
            go_ret
            exact ⟨rfl, hbT.trans (hb12.mono hbT.size)⟩

end Go.Proofs.Qxb6601469a

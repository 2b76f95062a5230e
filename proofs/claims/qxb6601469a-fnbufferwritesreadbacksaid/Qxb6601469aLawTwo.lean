/-
  THE WALK of the law FnGrowKeepsTextAndMakesRoom (5).
-/
import Derived.Test.Qxb6601469aZZGrow
import Derived.Test.Qxb6601469aRange
namespace Go.Proofs.Qxb6601469a
open Go.RowKit

/-- A row of bytes and a row of slices lie in different blocks. -/
theorem rows_apart {w : World} {b1 b2 : Nat} {v fv : Value} {n m : Nat} {xs vs : List Value} (h : w.ownsRow b1 5 1 v n xs) (hf : w.ownsRow b2 23 1 fv m vs) : v.ownBlock = none ∨ v.ownBlock ≠ fv.ownBlock := by
  rcases h.2 with ⟨rfl, _⟩ | ⟨g, cap, cur, rfl, _, hg, _⟩
  · exact .inl rfl
  · right
    rcases hf.2 with ⟨rfl, _⟩ | ⟨g', cap', cur', rfl, _, hg', _⟩
    · simp [Value.ownBlock]
    · simp only [Value.ownBlock, ne_eq, Option.some.injEq]
      intro e
      rw [e] at hg
      rw [hg] at hg'
      simp at hg'

theorem OwnBB.push {w w' : World} {base : Nat} {fv fv' : Value} {Zs : List (List Int)} {vs : List Value} {la : Option Addr} {lc : Nat} {zs : List Int} (ho : w.ownsRow base 23 1 fv Zs.length vs)
    (he : ∀ i, i < Zs.length → ∃ ai ci, vs[i]? = some (.slice ai (Zs.getD i []).length ci) ∧ w.ownsRow base 5 1 (.slice ai (Zs.getD i []).length ci) (Zs.getD i []).length (bs (Zs.getD i [])))
    (hl : w.ownsRow base 5 1 (.slice la zs.length lc) zs.length (bs zs)) (hg : w.grownBy w' fv.ownBlock) (ho' : w'.ownsRow base 23 1 fv' (Zs.length + 1) (vs ++ [.slice la zs.length lc])) : OwnBB w' base fv' (Zs ++ [zs]) := by
  have hvl : vs.length = Zs.length := by have := ho.1; omega
  refine ⟨vs ++ [.slice la zs.length lc], by rw [List.length_append]; exact ho', fun i hi => ?_⟩
  rw [List.length_append, List.length_singleton] at hi
  by_cases hik : i < Zs.length
  · obtain ⟨ai, ci, e, h⟩ := he i hik
    have e2 : (Zs ++ [zs]).getD i [] = Zs.getD i [] := by simp [List.getD, List.getElem?_append_left hik]
    rw [e2]
    exact ⟨ai, ci, by rw [List.getElem?_append_left (by omega)]; exact e, h.kept hg (rows_apart h ho)⟩
  · obtain rfl : i = Zs.length := by omega
    have e2 : (Zs ++ [zs]).getD Zs.length [] = zs := by simp [List.getD]
    rw [e2]
    exact ⟨la, lc, by rw [List.getElem?_append_right (by omega)]; simp [hvl], hl.kept hg (rows_apart hl ho)⟩

theorem OwnBB.rdAt {w : World} {base : Nat} {a : Option Addr} {n c : Nat} {Zs : List (List Int)} (h : OwnBB w base (.slice a n c) Zs) : RdBB w a Zs := by
  obtain ⟨_, _, hv, hr, _⟩ := h.rd
  simp only [Value.slice.injEq] at hv
  rw [hv.1]; exact hr

theorem own_rdAt {w : World} {base : Nat} {a : Option Addr} {n m c : Nat} {zs : List Int} (h : w.ownsRow base 5 1 (.slice a n c) m (bs zs)) : RdB w a zs := by
  obtain ⟨_, _, _, hv, hr, _⟩ := own_rd h
  simp only [Value.slice.injEq] at hv
  rw [hv.1]; exact hr

theorem ownBlock_slice {a : Option Addr} {n c k : Nat} (h : (Value.slice a n c).ownBlock = some k) : ∃ y, a = some y ∧ y.block = k := by
  cases a with
  | none => simp [Value.ownBlock] at h
  | some y => exact ⟨y, rfl, by simpa [Value.ownBlock] using h⟩

theorem text_push (Zs : List (List Int)) (zs : List Int) : (Zs ++ [zs]).flatten ++ [] = Zs.flatten ++ zs := by simp

theorem Whole.push {Zs : List (List Int)} {zs : List Int} (h : Whole Zs) (hz : zs.length = 32768) : Whole (Zs ++ [zs]) := by
  intro i hi
  rw [List.length_append, List.length_singleton] at hi
  by_cases hik : i < Zs.length
  · have e2 : (Zs ++ [zs]).getD i [] = Zs.getD i [] := by simp [List.getD, List.getElem?_append_left hik]
    rw [e2]; exact h i hik
  · obtain rfl : i = Zs.length := by omega
    have e2 : (Zs ++ [zs]).getD Zs.length [] = zs := by simp [List.getD]
    rw [e2]; exact hz

set_option maxHeartbeats 6000000 in
theorem law2_walk (fa : Option Addr) (fc : Nat) (Zs : List (List Int)) (la : Option Addr) (lc : Nat) (zs : List Int) (w : World)
    (hF : RdBB w fa Zs) (hF0 : fa = none → fc = 0) (hF1 : Zs.length ≤ fc) (hF2 : fc ≤ maxLen)
    (hL : RdB w la zs) (hL0 : la = none → lc = 0) (hL1 : zs.length ≤ lc) (hL2 : lc ≤ maxLen) :
    Calls Try.prog 5 #[.slice fa Zs.length fc, .slice la zs.length lc] w (Yes w) := by
  unfold maxLen at hF2 hL2
  go_enter Try.func5, Try.ntmps5
  go_wp2_with fail
  refine (zz16_any fa _ fc Zs w hF rfl (by unfold maxLen; omega) la _ lc (by unfold maxLen; omega)).mono ?_
  rintro e1 w' ⟨r, rfl, -, rfl⟩
  cases r
  · go_wp2
    go_ret
    exact ⟨rfl, Below.refl _ _⟩
  go_wp2_with fail
  refine (sizeOK_any fa _ fc Zs w' hF rfl (by unfold maxLen; omega) la _ lc none 0 0 (by unfold maxLen; omega) (Nat.zero_le _)).mono ?_
  rintro e1 w ⟨r, rfl, hsize, rfl⟩
  cases r
  · go_wp2
    go_ret
    exact ⟨rfl, Below.refl _ _⟩
  obtain ⟨hn, hln, -⟩ := hsize rfl
  clear hsize
  go_wp2_with fail
  refine (blocksOK_any fa _ fc Zs _ hF rfl (by omega)).mono ?_
  rintro e1 w2 ⟨r, rfl, hwh, rfl⟩
  cases r
  · go_wp2
    go_ret
    exact ⟨rfl, Below.refl _ _⟩
  have hW := hwh.1 rfl
  clear hwh
  obtain ⟨w0, rfl⟩ : ∃ w0 : World, w0 = w2 := ⟨_, rfl⟩
  by_cases hnf : 0 < Zs.length
  · by_cases hl : zs.length = 32768
    case neg =>
      have hl' : ((zs.length : Int) != 32768) = true := by rw [bne_iff_ne]; omega
      go_wp2_with fail
      go_ret
      exact ⟨rfl, Below.refl _ _⟩
    have hl' : ((zs.length : Int) != 32768) = false := by rw [bne_eq_false_iff_eq]; omega
    have HL := hid hl
    have hnf' : (0 : Int) < (Zs.length : Int) := by omega
    clear hl
    have hwl : Hid (∀ i, i < Zs.length → (Zs.getD i []).length ≤ 1048576) := hid (fun i hi => by rw [hW i hi]; omega)
    have hTb : Hid (Zs.flatten.length + zs.length ≤ 4294967296) := hid (by rw [flat_len Zs hW]; omega)
    have hTc : Hid ((Zs ++ [zs]).flatten.length + 0 ≤ 4294967296) := hid (by have := hTb.out; simpa using this)
    obtain ⟨TT, hTT0⟩ : ∃ TT, Zs.flatten ++ zs = TT := ⟨_, rfl⟩
    have hTl : TT.length ≤ 140737488355328 := by rw [← hTT0, List.length_append]; have := hTb.out; omega
    have hTT := hid hTT0
    clear hTT0
    go_wp2_with fail
    clear hl'
    refine (copyBlocks_any fa _ fc Zs _ hF rfl hF0 hF1 hn hwl.out).mono ?_
    rintro e1 w1 ⟨fa', rfl, hO, hb1⟩
    replace hL := hL.below hb1
    clear hF
    go_wp2_with fail
    refine (copyBytes_any la _ lc zs _ hL rfl hL0 hL1 (by omega)).mono ?_
    rintro e1 w2 ⟨la', rfl, hP, hb2⟩
    replace hO := hO.below hb2
    have hs1 := hb1.size
    have hs2 := hb2.size
    replace hb2 := hb1.trans (hb2.mono hb1.size)
    obtain ⟨fa2, fc2, hv, hF', -, -, hFb⟩ := hO.rd
    simp only [Value.slice.injEq, true_and] at hv
    obtain ⟨rfl, rfl⟩ := hv
    obtain ⟨-, la2, lc2, hv, hL', -⟩ := own_rd hP
    simp only [Value.slice.injEq, true_and] at hv
    obtain ⟨rfl, rfl⟩ := hv
    clear hL hb1
    go_wp2_with fail
    refine (textOf_any fa' _ _ Zs _ hF' rfl la' _ _ zs hL' rfl (by omega) hTb.out).mono ?_
    rintro e1 w3 ⟨tv, rfl, hO3, hb3⟩
    rw [hTT.out] at hO3
    obtain ⟨-, ta, tc, rfl, hT, -, -, -, htb⟩ := own_rd hO3
    replace hO := hO.below hb3
    replace hP := ownsRow_below hP hb3
    have hs3 := hb3.size
    replace hb3 := hb2.trans (hb3.mono hb2.size)
    clear hO3 hF' hL' hb2
    go_wp2_with fail
    obtain ⟨vs, hvo, hve⟩ := hO
    refine (zzGrow_c w0.heap.size fa' _ _ la' _ _ vs w3 hvo hb3.size (by have := HL.out; omega) (fun _ => by rw [HL.out]; exact Nat.le_refl _) hn (by omega)).mono ?_
    rintro e1 w4 ⟨g, cap, g2, he1, q1, q2, q3, q4, q5⟩
    obtain ⟨ct, hct⟩ : ∃ ct : Nat, ct = 32768 := ⟨_, rfl⟩
    rw [← hct] at he1
    subst he1
    have HCT := hid hct
    clear hct
    have hOp := OwnBB.push hvo hve (ownsRow_weaken hP hs1) q5 q1
    have hF4 := hOp.rdAt
    have hL4 := own_rdAt (zs := []) q4
    have hT4 := hT.grown q5 (fun x hx e => by
      have h1 := (htb x hx).1
      obtain ⟨y, hy, hyk⟩ := ownBlock_slice e.symm
      have h2 := (hFb y hy).2
      omega)
    have hb4 := hb3.grown q5 hb3.size (fun k hk => (hvo.lt k hk).1)
    clear hOp q1 q2 q3 q4 q5 hvo hve hP hT hFb htb
    go_wp2_with fail
    refine (textOf_any (some ⟨g, 0, none⟩) (Zs.length + 1) cap (Zs ++ [zs]) w4 hF4 (by simp) (some ⟨g2, 0, none⟩) 0 ct [] hL4 rfl (by omega) hTc.out).mono ?_
    rintro e1 w5 ⟨tv, rfl, hO5, hb5⟩
    rw [text_push, hTT.out] at hO5
    obtain ⟨-, ta2, tc2, rfl, hT5, -⟩ := own_rd hO5
    have hT6 := hT4.below hb5
    replace hF4 := hF4.below hb5
    replace hb5 := hb4.trans (hb5.mono hb4.size)
    clear hO5 hT4 hb4
    go_wp2_with fail
    refine (sameBytes_yes ta2 ta _ tc2 tc TT w5 hT5 hT6 rfl (by omega)).mono ?_
    rintro e1 w6 ⟨rfl, hb6⟩
    replace hF4 := hF4.below hb6
    replace hb6 := hb5.trans (hb6.mono hb5.size)
    clear hT5 hT6 hb5
    go_wp2_with fail
    refine (blocksOK_any (some ⟨g, 0, none⟩) (Zs.length + 1) cap (Zs ++ [zs]) w6 hF4 (by simp) (by omega)).mono ?_
    rintro e1 w7 ⟨r, rfl, hwh, rfl⟩
    obtain rfl : r = true := hwh.2 (hW.push HL.out)
    have hge : decide ((zs.length : Int) < 32768) = false := by have := HL.out; rw [decide_eq_false_iff_not]; omega
    have hct1 : decide (ct = 0) = false := by have := HCT.out; rw [decide_eq_false_iff_not]; omega
    have hct2 : ((ct : Int) == 32768) = true := by have := HCT.out; rw [beq_iff_eq]; omega
    clear hwh hF4
    go_wp2
    go_ret
    exact ⟨rfl, hb6⟩
  · have hnf' : ¬ (0 : Int) < (Zs.length : Int) := by omega
    have HZ : Hid (Zs.length = 0) := hid (by omega)
    go_wp2_with fail
    refine (isFirstSize_any zs.length _ (by omega)).mono ?_
    rintro e1 w2 ⟨r, rfl, hfs, rfl⟩
    cases r
    · go_wp2
      go_ret
      exact ⟨rfl, Below.refl _ _⟩
    have hfs' := hfs rfl
    clear hfs hnf
    obtain ⟨w0, rfl⟩ : ∃ w0 : World, w0 = w2 := ⟨_, rfl⟩
    have hwl : Hid (∀ i, i < Zs.length → (Zs.getD i []).length ≤ 1048576) := hid (fun i hi => by rw [hW i hi]; omega)
    have hTb : Hid (Zs.flatten.length + zs.length ≤ 4294967296) := hid (by rw [flat_len Zs hW]; omega)
    have hTc : Hid ((Zs ++ [zs]).flatten.length + 0 ≤ 4294967296) := hid (by have := hTb.out; simpa using this)
    obtain ⟨TT, hTT0⟩ : ∃ TT, Zs.flatten ++ zs = TT := ⟨_, rfl⟩
    have hTl : TT.length ≤ 140737488355328 := by rw [← hTT0, List.length_append]; have := hTb.out; omega
    have hTT := hid hTT0
    clear hTT0
    rcases (show zs = [] ∨ (0 < zs.length ∧ (1024 ≤ zs.length ∧ zs.length ≤ 16384)) ∨ zs.length = 32768 by
        unfold FirstSize at hfs'
        by_cases h0 : zs.length = 0
        · exact .inl (List.eq_nil_of_length_eq_zero h0)
        · omega) with rfl | hB | hl
    · clear hfs'
      go_wp2_with fail
      refine (copyBlocks_any fa _ fc Zs _ hF rfl hF0 hF1 hn hwl.out).mono ?_
      rintro e1 w1 ⟨fa', rfl, hO, hb1⟩
      replace hL := hL.below hb1
      clear hF
      go_wp2_with fail
      refine (copyBytes_any la _ lc [] _ hL rfl hL0 hL1 (by omega)).mono ?_
      rintro e1 w2 ⟨la', rfl, hP, hb2⟩
      replace hO := hO.below hb2
      have hs1 := hb1.size
      have hs2 := hb2.size
      replace hb2 := hb1.trans (hb2.mono hb1.size)
      obtain ⟨fa2, fc2, hv, hF', -, -, hFb⟩ := hO.rd
      simp only [Value.slice.injEq, true_and] at hv
      obtain ⟨rfl, rfl⟩ := hv
      obtain ⟨-, la2, lc2, hv, hL', -⟩ := own_rd hP
      simp only [Value.slice.injEq, true_and] at hv
      obtain ⟨rfl, rfl⟩ := hv
      clear hL hb1
      go_wp2_with fail
      refine (textOf_any fa' _ _ Zs _ hF' rfl la' _ _ [] hL' rfl (by omega) hTb.out).mono ?_
      rintro e1 w3 ⟨tv, rfl, hO3, hb3⟩
      rw [hTT.out] at hO3
      obtain ⟨-, ta, tc, rfl, hT, -, -, -, htb⟩ := own_rd hO3
      replace hO := hO.below hb3
      replace hP := ownsRow_below hP hb3
      have hs3 := hb3.size
      replace hb3 := hb2.trans (hb3.mono hb2.size)
      clear hO3 hF' hL' hb2
      go_wp2_with fail
      refine (zzGrow_a fa' _ _ la' w3).mono ?_
      rintro e1 w4 ⟨g2, he1, q3, q4, q5⟩
      obtain ⟨ct, hct⟩ : ∃ ct : Nat, ct = 1024 := ⟨_, rfl⟩
      rw [← hct] at he1
      subst he1
      have HCT := hid hct
      clear hct
      have hbg := grownBy_below q5
      have hF4 := (hO.below hbg).rdAt
      have hL4 := own_rdAt q4
      have hT4 := hT.below hbg
      have hb4 := hb3.trans (hbg.mono hb3.size)
      clear hbg q3 q4 q5 hO hP hT htb hFb
      go_wp2_with fail
      refine (textOf_any fa' _ _ Zs w4 hF4 rfl (some ⟨g2, 0, none⟩) _ ct [] hL4 rfl (by omega) hTb.out).mono ?_
      rintro e1 w5 ⟨tv, rfl, hO5, hb5⟩
      rw [hTT.out] at hO5
      obtain ⟨-, ta2, tc2, rfl, hT5, -⟩ := own_rd hO5
      have hT6 := hT4.below hb5
      replace hF4 := hF4.below hb5
      replace hb5 := hb4.trans (hb5.mono hb4.size)
      clear hO5 hT4 hb4
      go_wp2_with fail
      refine (sameBytes_yes ta2 ta _ tc2 tc TT w5 hT5 hT6 rfl (by omega)).mono ?_
      rintro e1 w6 ⟨rfl, hb6⟩
      replace hF4 := hF4.below hb6
      replace hb6 := hb5.trans (hb6.mono hb5.size)
      clear hT5 hT6 hb5
      go_wp2_with fail
      refine (blocksOK_any fa' _ _ Zs w6 hF4 rfl (by omega)).mono ?_
      rintro e1 w7 ⟨r, rfl, hwh, rfl⟩
      obtain rfl : r = true := hwh.2 hW
      clear hwh hF4
      have hz0 : ((Zs.length : Int) == 0) = true := by have := HZ.out; rw [beq_iff_eq]; omega
      have hct1 : decide (ct = 0) = false := by have := HCT.out; rw [decide_eq_false_iff_not]; omega
      have hct2 : ((ct : Int) == 1024) = true := by have := HCT.out; rw [beq_iff_eq]; omega
      go_wp2
      go_ret
      exact ⟨rfl, hb6⟩
    · have HB := hid hB
      clear hfs' hB
      go_wp2_with fail
      refine (copyBlocks_any fa _ fc Zs _ hF rfl hF0 hF1 hn hwl.out).mono ?_
      rintro e1 w1 ⟨fa', rfl, hO, hb1⟩
      replace hL := hL.below hb1
      clear hF
      go_wp2_with fail
      refine (copyBytes_any la _ lc zs _ hL rfl hL0 hL1 (by omega)).mono ?_
      rintro e1 w2 ⟨la', rfl, hP, hb2⟩
      replace hO := hO.below hb2
      have hs1 := hb1.size
      have hs2 := hb2.size
      replace hb2 := hb1.trans (hb2.mono hb1.size)
      obtain ⟨fa2, fc2, hv, hF', -, -, hFb⟩ := hO.rd
      simp only [Value.slice.injEq, true_and] at hv
      obtain ⟨rfl, rfl⟩ := hv
      obtain ⟨-, la2, lc2, hv, hL', -⟩ := own_rd hP
      simp only [Value.slice.injEq, true_and] at hv
      obtain ⟨rfl, rfl⟩ := hv
      clear hL hb1
      go_wp2_with fail
      refine (textOf_any fa' _ _ Zs _ hF' rfl la' _ _ zs hL' rfl (by omega) hTb.out).mono ?_
      rintro e1 w3 ⟨tv, rfl, hO3, hb3⟩
      rw [hTT.out] at hO3
      obtain ⟨-, ta, tc, rfl, hT, -, -, -, htb⟩ := own_rd hO3
      replace hO := hO.below hb3
      replace hP := ownsRow_below hP hb3
      have hs3 := hb3.size
      replace hb3 := hb2.trans (hb3.mono hb2.size)
      clear hO3 hF' hL' hb2
      go_wp2_with fail
      refine (zzGrow_b fa' _ _ HZ.out la' _ zs w3 (own_rdAt hP) HB.out.1 (Nat.le_refl _) (by have := HB.out.2; omega)).mono ?_
      rintro e1 w4 ⟨g2, he1, q3, q4, q5⟩
      obtain ⟨ct, hct⟩ : ∃ ct : Nat, ct = 2 * zs.length := ⟨_, rfl⟩
      rw [← hct] at he1
      subst he1
      have HCT := hid hct
      clear hct
      have hbg := grownBy_below q5
      have hF4 := (hO.below hbg).rdAt
      have hL4 := own_rdAt q4
      have hT4 := hT.below hbg
      have hb4 := hb3.trans (hbg.mono hb3.size)
      clear hbg q3 q4 q5 hO hP hT htb hFb
      go_wp2_with fail
      refine (textOf_any fa' _ _ Zs w4 hF4 rfl (some ⟨g2, 0, none⟩) _ ct zs hL4 rfl (by omega) hTb.out).mono ?_
      rintro e1 w5 ⟨tv, rfl, hO5, hb5⟩
      rw [hTT.out] at hO5
      obtain ⟨-, ta2, tc2, rfl, hT5, -⟩ := own_rd hO5
      have hT6 := hT4.below hb5
      replace hF4 := hF4.below hb5
      replace hb5 := hb4.trans (hb5.mono hb4.size)
      clear hO5 hT4 hb4
      go_wp2_with fail
      refine (sameBytes_yes ta2 ta _ tc2 tc TT w5 hT5 hT6 rfl (by omega)).mono ?_
      rintro e1 w6 ⟨rfl, hb6⟩
      replace hF4 := hF4.below hb6
      replace hb6 := hb5.trans (hb6.mono hb5.size)
      clear hT5 hT6 hb5
      go_wp2_with fail
      refine (blocksOK_any fa' _ _ Zs w6 hF4 rfl (by omega)).mono ?_
      rintro e1 w7 ⟨r, rfl, hwh, rfl⟩
      obtain rfl : r = true := hwh.2 hW
      clear hwh hF4
      have hz0 : ((Zs.length : Int) == 0) = true := by have := HZ.out; rw [beq_iff_eq]; omega
      have hct1 : decide (ct ≤ zs.length) = false := by have := HCT.out; have := HB.out; rw [decide_eq_false_iff_not]; omega
      have hge : decide ((zs.length : Int) < 32768) = true := by have := HB.out; rw [decide_eq_true_eq]; omega
      have hw2 : decide (2 * (zs.length : Int) < 1024) = false := by have := HB.out; rw [decide_eq_false_iff_not]; omega
      have hct2 : ((ct : Int) == 2 * (zs.length : Int)) = true := by have := HCT.out; rw [beq_iff_eq]; omega
      go_wp2
      go_ret
      exact ⟨rfl, hb6⟩
    · have HL := hid hl
      clear hfs' hl
      go_wp2_with fail
      refine (copyBlocks_any fa _ fc Zs _ hF rfl hF0 hF1 hn hwl.out).mono ?_
      rintro e1 w1 ⟨fa', rfl, hO, hb1⟩
      replace hL := hL.below hb1
      clear hF
      go_wp2_with fail
      refine (copyBytes_any la _ lc zs _ hL rfl hL0 hL1 (by omega)).mono ?_
      rintro e1 w2 ⟨la', rfl, hP, hb2⟩
      replace hO := hO.below hb2
      have hs1 := hb1.size
      have hs2 := hb2.size
      replace hb2 := hb1.trans (hb2.mono hb1.size)
      obtain ⟨fa2, fc2, hv, hF', -, -, hFb⟩ := hO.rd
      simp only [Value.slice.injEq, true_and] at hv
      obtain ⟨rfl, rfl⟩ := hv
      obtain ⟨-, la2, lc2, hv, hL', -⟩ := own_rd hP
      simp only [Value.slice.injEq, true_and] at hv
      obtain ⟨rfl, rfl⟩ := hv
      clear hL hb1
      go_wp2_with fail
      refine (textOf_any fa' _ _ Zs _ hF' rfl la' _ _ zs hL' rfl (by omega) hTb.out).mono ?_
      rintro e1 w3 ⟨tv, rfl, hO3, hb3⟩
      rw [hTT.out] at hO3
      obtain ⟨-, ta, tc, rfl, hT, -, -, -, htb⟩ := own_rd hO3
      replace hO := hO.below hb3
      replace hP := ownsRow_below hP hb3
      have hs3 := hb3.size
      replace hb3 := hb2.trans (hb3.mono hb2.size)
      clear hO3 hF' hL' hb2
      go_wp2_with fail
      obtain ⟨vs, hvo, hve⟩ := hO
      refine (zzGrow_c w0.heap.size fa' _ _ la' _ _ vs w3 hvo hb3.size (by have := HL.out; omega) (fun _ => by rw [HL.out]; exact Nat.le_refl _) hn (by omega)).mono ?_
      rintro e1 w4 ⟨g, cap, g2, he1, q1, q2, q3, q4, q5⟩
      obtain ⟨ct, hct⟩ : ∃ ct : Nat, ct = 32768 := ⟨_, rfl⟩
      rw [← hct] at he1
      subst he1
      have HCT := hid hct
      clear hct
      have hOp := OwnBB.push hvo hve (ownsRow_weaken hP hs1) q5 q1
      have hF4 := hOp.rdAt
      have hL4 := own_rdAt (zs := []) q4
      have hT4 := hT.grown q5 (fun x hx e => by
        have h1 := (htb x hx).1
        obtain ⟨y, hy, hyk⟩ := ownBlock_slice e.symm
        have h2 := (hFb y hy).2
        omega)
      have hb4 := hb3.grown q5 hb3.size (fun k hk => (hvo.lt k hk).1)
      clear hOp q1 q2 q3 q4 q5 hvo hve hP hT hFb htb
      go_wp2_with fail
      refine (textOf_any (some ⟨g, 0, none⟩) (Zs.length + 1) cap (Zs ++ [zs]) w4 hF4 (by simp) (some ⟨g2, 0, none⟩) 0 ct [] hL4 rfl (by omega) hTc.out).mono ?_
      rintro e1 w5 ⟨tv, rfl, hO5, hb5⟩
      rw [text_push, hTT.out] at hO5
      obtain ⟨-, ta2, tc2, rfl, hT5, -⟩ := own_rd hO5
      have hT6 := hT4.below hb5
      replace hF4 := hF4.below hb5
      replace hb5 := hb4.trans (hb5.mono hb4.size)
      clear hO5 hT4 hb4
      go_wp2_with fail
      refine (sameBytes_yes ta2 ta _ tc2 tc TT w5 hT5 hT6 rfl (by omega)).mono ?_
      rintro e1 w6 ⟨rfl, hb6⟩
      replace hF4 := hF4.below hb6
      replace hb6 := hb5.trans (hb6.mono hb5.size)
      clear hT5 hT6 hb5
      go_wp2_with fail
      refine (blocksOK_any (some ⟨g, 0, none⟩) (Zs.length + 1) cap (Zs ++ [zs]) w6 hF4 (by simp) (by omega)).mono ?_
      rintro e1 w7 ⟨r, rfl, hwh, rfl⟩
      obtain rfl : r = true := hwh.2 (hW.push HL.out)
      have hge : decide ((zs.length : Int) < 32768) = false := by have := HL.out; rw [decide_eq_false_iff_not]; omega
      have hct1 : decide (ct = 0) = false := by have := HCT.out; rw [decide_eq_false_iff_not]; omega
      have hct2 : ((ct : Int) == 32768) = true := by have := HCT.out; rw [beq_iff_eq]; omega
      clear hwh hF4
      go_wp2
      go_ret
      exact ⟨rfl, hb6⟩

end Go.Proofs.Qxb6601469a

/-
  THE WALK of the law FnNestingOpenScriptStacksFlags (6).
-/
import Derived.Test.Qxb6601649aZZOpen
namespace Go.Proofs.Qxb6601649a
open Go.RowKit

/-- The levels beyond the word, behind t flags. -/
def Lv (fs : List Bool) (t : Nat) : List Bool := (fs.take (min t 10000)).drop 64

theorem Lv_len (fs : List Bool) (t : Nat) (h : t ≤ fs.length) : (Lv fs t).length = min t 10000 - 64 := by
  unfold Lv
  rw [List.length_drop, List.length_take]
  omega

theorem Lv_word (fs : List Bool) (t : Nat) (h : t < 64) : Lv fs (t + 1) = Lv fs t := by
  unfold Lv
  rw [List.drop_of_length_le (by rw [List.length_take]; omega), List.drop_of_length_le (by rw [List.length_take]; omega)]

theorem Lv_deep (fs : List Bool) (t : Nat) (h : 64 ≤ t) (h2 : t < 10000) (hl : t < fs.length) : Lv fs (t + 1) = Lv fs t ++ [fs.getD t false] := by
  unfold Lv
  rw [Nat.min_eq_left (by omega), Nat.min_eq_left (by omega), take_snocB fs t hl, List.drop_append_of_le_length (by rw [List.length_take]; omega)]

theorem Lv_full (fs : List Bool) (t : Nat) (h : 10000 ≤ t) : Lv fs (t + 1) = Lv fs t := by
  unfold Lv
  rw [Nat.min_eq_right (by omega), Nat.min_eq_right (by omega)]

theorem Lv_get (fs : List Bool) (t k : Nat) (h : 64 ≤ k) (hk : k < min t 10000) : (Lv fs t).getD (k - 64) false = fs.getD k false := by
  unfold Lv
  simp only [List.getD, List.getElem?_drop, List.getElem?_take]
  rw [show 64 + (k - 64) = k by omega, if_pos hk]

theorem rdL_drewN {w : World} {a : Option Addr} {fs : List Bool} (h : RdL w a fs) (n : Nat) : RdL (w.drewN n) a fs := h

/-- Behind t flags. -/
def NS (w1 : World) (fs : List Bool) (t : Nat) (dep obj dv : Value) (wr : World) : Prop :=
  dep = .int .i64 ((min t 10000 : Nat) : Int) ∧ obj = .int .u64 (Wd fs t : Int) ∧ (∃ a c, dv = .slice a (min t 10000 - 64) c) ∧ wr.ownsRow w1.heap.size 4 1 dv (min t 10000 - 64) (vb (Lv fs t)) ∧ Below w1.heap.size w1 wr

theorem NS.start (w1 : World) (fs : List Bool) : NS w1 fs 0 (.int .i64 0) (.int .u64 0) (.slice none 0 0) w1 :=
  ⟨rfl, rfl, ⟨none, 0, rfl⟩, by
    have : Lv fs 0 = [] := by simp [Lv]
    rw [this]; exact World.ownsRow_nil _ _ _ _, Below.refl _ _⟩

theorem NS.no {w1 : World} {fs : List Bool} {t : Nat} {a : Option Addr} {m c : Nat} {wr w' : World} (ht : 10000 ≤ t) (hm : min t 10000 - 64 = m) (ho : wr.ownsRow w1.heap.size 4 1 (.slice a m c) m (vb (Lv fs t))) (hb : Below w1.heap.size w1 wr)
    (hg : wr.grownBy w' none) : NS w1 fs (t + 1) (.int .i64 ((min t 10000 : Nat) : Int)) (.int .u64 (Wd fs t : Int)) (.slice a m c) w' := by
  have e : min (t + 1) 10000 = min t 10000 := by omega
  refine ⟨by rw [e], by rw [Wd_same fs t (by omega)], ⟨a, c, by rw [e, hm]⟩, ?_, hb.grown hg hb.size (fun k hk => by cases hk)⟩
  rw [e, hm, Lv_full fs t ht]
  exact ho.kept hg (by cases (Value.slice a m c).ownBlock <;> simp)

theorem NS.word {w1 : World} {fs : List Bool} {t : Nat} {a : Option Addr} {m c : Nat} {wr w' : World} (ht : t < 64) (hm : min t 10000 - 64 = m) (ho : wr.ownsRow w1.heap.size 4 1 (.slice a m c) m (vb (Lv fs t))) (hb : Below w1.heap.size w1 wr)
    (hg : wr.grownBy w' none) : NS w1 fs (t + 1) (.int .i64 ((t : Int) + 1)) (.int .u64 (Wd fs (t + 1) : Int)) (.slice a m c) w' := by
  have e : min (t + 1) 10000 = t + 1 := by omega
  have e2 : t + 1 - 64 = m := by omega
  refine ⟨by rw [e]; rfl, rfl, ⟨a, c, by rw [e, e2]⟩, ?_, hb.grown hg hb.size (fun k hk => by cases hk)⟩
  rw [e, e2, Lv_word fs t ht]
  exact ho.kept hg (by cases (Value.slice a m c).ownBlock <;> simp)

theorem NS.deep {w1 : World} {fs : List Bool} {t : Nat} {a a' : Option Addr} {m c c' : Nat} {wr w' : World} (ht : 64 ≤ t) (ht2 : t < 10000) (hl : t < fs.length) (hm : min t 10000 - 64 = m) (ho : wr.ownsRow w1.heap.size 4 1 (.slice a m c) m (vb (Lv fs t))) (hb : Below w1.heap.size w1 wr)
    (hg : wr.grownBy w' (Value.slice a m c).ownBlock) (ho' : w'.ownsRow w1.heap.size 4 1 (.slice a' (m + 1) c') (m + 1) (vb (Lv fs t) ++ [.bool (fs.getD t false)])) :
    NS w1 fs (t + 1) (.int .i64 ((t : Int) + 1)) (.int .u64 (Wd fs t : Int)) (.slice a' (m + 1) c') w' := by
  have e : min (t + 1) 10000 = t + 1 := by omega
  have e2 : t + 1 - 64 = m + 1 := by omega
  refine ⟨by rw [e]; rfl, by rw [Wd_same fs t ht], ⟨a', c', by rw [e, e2]⟩, ?_, hb.grown hg hb.size (fun k hk => (ho.lt k hk).1)⟩
  rw [e, e2, Lv_deep fs t ht ht2 hl, vb_append]
  exact ho'

set_option maxHeartbeats 6000000 in
set_option maxRecDepth 100000 in
theorem lawN_walk (da : Option Addr) (dc : Nat) (fs : List Bool) (w : World) (hD : RdL w da fs) (hD0 : da = none → dc = 0) (hD1 : fs.length ≤ dc) (hD2 : dc ≤ maxLen) :
    Calls Try.prog 6 #[.slice da fs.length dc] w (Yes w) := by
  unfold maxLen at hD2
  go_enter Try.func6, Try.ntmps6
  go_wp2_with fail
  refine (zz15_any da _ dc w (by unfold maxLen; omega)).mono ?_
  rintro e1 w' ⟨r, rfl, -, rfl⟩
  cases r
  · go_wp2
    go_ret
    exact ⟨rfl, Below.refl _ _⟩
  by_cases hn : fs.length ≤ 65536
  case neg =>
    have hdn : decide (65536 < (fs.length : Int)) = true := by rw [decide_eq_true_eq]; omega
    go_wp2_with fail
    go_ret
    exact ⟨rfl, Below.refl _ _⟩
  have hdn : decide (65536 < (fs.length : Int)) = false := by rw [decide_eq_false_iff_not]; omega
  go_wp2_with fail
  refine (cloneBools_any da _ dc fs _ hD rfl hD0 hD1 (by omega)).mono ?_
  rintro e1 w1 ⟨da', rfl, hO, hb1⟩
  have hD' := own_rdL hO
  clear hO hD
  go_wp2_with fail
  go_loopg [3, 4, 5, 6] fs.length (fun g dep obj dv i wr => ∃ t : Nat, g = fs.length - t ∧ t ≤ fs.length ∧ i = .int .i64 t ∧ NS w1 fs t dep obj dv wr)
  case atStart => exact ⟨0, rfl, Nat.zero_le _, rfl, NS.start _ _⟩
  case round =>
    obtain ⟨t, hg, ht, rfl, rfl, rfl, ⟨a, c, rfl⟩, ho, hb⟩ := hrel
    have HG := hid hg
    clear hg
    by_cases hlt : t < fs.length
    · obtain ⟨db, dof, d1, d2⟩ := hD'.below hb
      obtain rfl := d1 (by omega)
      have hc := d2 t hlt
      obtain ⟨f, hf⟩ : ∃ f, fs.getD t false = f := ⟨_, rfl⟩
      rw [hf] at hc
      have HF := hid hf
      clear hf d2
      have hlt' : (t : Int) < (fs.length : Int) := by omega
      obtain ⟨m, hm⟩ : ∃ m, min t 10000 - 64 = m := ⟨_, rfl⟩
      rw [hm] at ho
      rw [hm]
      rcases (show 10000 ≤ t ∨ (64 ≤ t ∧ t < 10000) ∨ t < 64 by omega) with hc1 | hc1 | hc1
      · obtain ⟨d, hd⟩ : ∃ d, min t 10000 = d := ⟨_, rfl⟩
        have hN := fun (w' : World) (hg : wr.grownBy w' none) => NS.no hc1 hm ho hb hg
        rw [hd] at hN hm
        rw [hd]
        have hdd : d = 10000 := by omega
        have HN := hid hN
        have HD := hid hdd
        have q1 : decide ((t : Int) < 10000) = false := by rw [decide_eq_false_iff_not]; omega
        have q2 : decide (10000 < (t : Int) + 1) = true := by rw [decide_eq_true_eq]; omega
        have q3 : ((d : Int) != 10000) = false := by rw [bne_eq_false_iff_eq]; omega
        have q4 : decide (64 < (d : Int)) = true := by rw [decide_eq_true_eq]; omega
        have q5 : ((m : Int) != (d : Int) - 64) = false := by rw [bne_eq_false_iff_eq]; omega
        have q6 : (d : Int) ≤ 10000 := by omega
        have q7 : (0 : Int) ≤ (d : Int) := by omega
        generalize Wd fs t = O at *
        clear hN hdd hm hd hc1 ho hb
        go_wp2_with fail
        refine (zzOpen_no d (O : Int) a m c f _ HD.out).mono ?_
        rintro e1 w2 ⟨rfl, hg2, -⟩
        have HS := hid (HN.out w2 hg2)
        clear hg2
        go_wp2
        go_roundg (fs.length - (t + 1))
        case measure => have := HG.out; omega
        case rel => exact ⟨t + 1, rfl, by omega, by go_num, HS.out⟩
      · have hN := fun (w' : World) (a' : Option Addr) (c' : Nat) (hg : wr.grownBy w' (Value.slice a m c).ownBlock) (ho' : w'.ownsRow w1.heap.size 4 1 (.slice a' (m + 1) c') (m + 1) (vb (Lv fs t) ++ [.bool f])) => NS.deep hc1.1 hc1.2 hlt hm ho hb hg (by rw [HF.out]; exact ho')
        have hd : min t 10000 = t := by omega
        rw [hd]
        have HN := hid hN
        have HD := hid hc1
        have hBs := hb.size
        have q0 : (t : Int) ≤ 10000 := by omega
        have q1 : decide ((t : Int) < 10000) = true := by rw [decide_eq_true_eq]; omega
        have q2 : decide (10000 < (t : Int) + 1) = false := by rw [decide_eq_false_iff_not]; omega
        have q4 : decide (64 < (t : Int) + 1) = true := by rw [decide_eq_true_eq]; omega
        have q5 : ((m : Int) + 1 != (t : Int) + 1 - 64) = false := by rw [bne_eq_false_iff_eq]; omega
        have hml : m ≤ 10000 := by omega
        have HO := hid ho
        generalize Wd fs t = O at *
        clear hN hm hd hc1 ho hb
        go_wp2_with fail
        refine (zzOpen_deep t (O : Int) a m c w1.heap.size _ f _ HD.out.1 HD.out.2 hml HO.out hBs).mono ?_
        rintro e1 w2 ⟨a', c', rfl, hg2, ho2⟩
        have HS := hid (HN.out w2 a' c' hg2 ho2)
        clear hg2 ho2
        go_wp2
        go_roundg (fs.length - (t + 1))
        case measure => have := HG.out; omega
        case rel => exact ⟨t + 1, rfl, by omega, by go_num, HS.out⟩
      · have hd : min t 10000 = t := by omega
        rw [hd]
        have hN := fun (w' : World) (hg : wr.grownBy w' none) => NS.word hc1 hm ho hb hg
        have HN := hid hN
        have HD := hid hc1
        have q0 : (t : Int) ≤ 10000 := by omega
        have q1 : decide ((t : Int) < 10000) = true := by rw [decide_eq_true_eq]; omega
        have q2 : decide (10000 < (t : Int) + 1) = false := by rw [decide_eq_false_iff_not]; omega
        have q4 : decide (64 < (t : Int) + 1) = false := by rw [decide_eq_false_iff_not]; omega
        have q5 : ((m : Int) != 0) = false := by rw [bne_eq_false_iff_eq]; omega
        cases f with
        | true =>
          have HO := hid (word_or fs t hc1 HF.out)
          obtain ⟨O, hO1⟩ : ∃ O, (Wd fs t : Int) = O := ⟨_, rfl⟩
          obtain ⟨O2, hO2⟩ : ∃ O2, (Wd fs (t + 1) : Int) = O2 := ⟨_, rfl⟩
          rw [hO1, hO2] at HO
          rw [hO2] at HN
          rw [hO1]
          clear hN hm hd hc1 ho hb hO1 hO2
          go_wp2_with fail
          refine (zzOpen_set t O O2 HO.out a m c _ HD.out).mono ?_
          rintro e1 w2 ⟨rfl, hg2, -⟩
          have HS := hid (HN.out w2 hg2)
          clear hg2
          go_wp2
          go_roundg (fs.length - (t + 1))
          case measure => have := HG.out; omega
          case rel => exact ⟨t + 1, rfl, by omega, by go_num, HS.out⟩
        | false =>
          have HO := hid (word_andNot fs t hc1 (by rw [HF.out]; simp))
          obtain ⟨O, hO1⟩ : ∃ O, (Wd fs t : Int) = O := ⟨_, rfl⟩
          obtain ⟨O2, hO2⟩ : ∃ O2, (Wd fs (t + 1) : Int) = O2 := ⟨_, rfl⟩
          rw [hO1, hO2] at HO
          rw [hO2] at HN
          rw [hO1]
          clear hN hm hd hc1 ho hb hO1 hO2
          go_wp2_with fail
          refine (zzOpen_clear t O O2 HO.out a m c _ HD.out).mono ?_
          rintro e1 w2 ⟨rfl, hg2, -⟩
          have HS := hid (HN.out w2 hg2)
          clear hg2
          go_wp2
          go_roundg (fs.length - (t + 1))
          case measure => have := HG.out; omega
          case rel => exact ⟨t + 1, rfl, by omega, by go_num, HS.out⟩
    · obtain rfl : t = fs.length := by omega
      have hlt' : ¬ (fs.length : Int) < (fs.length : Int) := by omega
      have hdr := own_rdL ho
      have hll := Lv_len fs fs.length (Nat.le_refl _)
      have hget := fun k => Lv_get fs fs.length k
      have hDr := hD'.below hb
      have hbT := hb1.trans (hb.mono hb1.size)
      obtain ⟨d, hd⟩ : ∃ d, min fs.length 10000 = d := ⟨_, rfl⟩
      rw [hd] at hll hget
      rw [hd]
      obtain ⟨m, hm⟩ : ∃ m, d - 64 = m := ⟨_, rfl⟩
      rw [hm] at hll
      rw [hm]
      obtain ⟨ds, hds⟩ : ∃ ds, Lv fs fs.length = ds := ⟨_, rfl⟩
      rw [hds] at hdr hll hget
      have HM := hid hm
      have HL := hid hll
      have HGet := hid hget
      have HDD := hid hd
      have hd1 : d ≤ 10000 := by omega
      have hd2 : d ≤ fs.length := by omega
      clear ho hb hb1 hD' HG hm hll hget hds
      by_cases hbig : 10000 < fs.length
      · have q1 : decide (10000 < (fs.length : Int)) = true := by rw [decide_eq_true_eq]; omega
        have q2 : ((d : Int) != 10000) = false := by rw [bne_eq_false_iff_eq]; omega
        clear hbig hd
        go_wp2
        go_loopg [13] d (fun g v wx => ∃ k : Nat, g = d - k ∧ k ≤ d ∧ v = .int .i64 k ∧ RdL wx da' fs ∧ RdL wx a ds ∧ Below w'.heap.size w' wx)
        case atStart => exact ⟨0, rfl, Nat.zero_le _, rfl, hDr, hdr, hbT⟩
        case round =>
          clear hDr hdr hbT
          obtain ⟨k, hg, hk, rfl, hDr, hdr, hbT⟩ := hrel
          have HG := hid hg
          have HDr := hid hDr
          clear hg
          by_cases hkd : k < d
          · have hkd' : (k : Int) < (d : Int) := by omega
            obtain ⟨db, dof, d1, d2⟩ := hDr
            obtain rfl := d1 (by omega)
            have hc := d2 k (by omega)
            have hkf : (k : Int) < (fs.length : Int) := by omega
            obtain ⟨f, hf⟩ : ∃ f, fs.getD k false = f := ⟨_, rfl⟩
            rw [hf] at hc
            have HF := hid hf
            clear hf d2
            by_cases hk64 : k < 64
            · have hlw := fun (W : World) => hid (levelWord fs fs.length k a m c W hk64 (by omega))
              generalize Wd fs fs.length = O at *
              rw [HF.out] at hlw
              go_wp2
              go_quiet ((go_at_call 19; exact Calls.quiet_of_same (hlw _).out))
              go_wp2
              go_roundg (d - (k + 1))
              case measure => have := HG.out; omega
              case rel => exact ⟨k + 1, rfl, by omega, by go_num, rdL_drewN HDr.out _, rdL_drewN hdr _, below_drewN hbT _⟩
            · have hlw := fun (W : World) (hW : RdL W a ds) => hid (levelDeep ds (Wd fs fs.length : Int) k a m c W hW HL.out (by omega) (by have := HM.out; omega) (by omega))
              rw [HGet.out k (by omega) hkd, HF.out] at hlw
              generalize Wd fs fs.length = O at *
              go_wp2
              go_quiet ((go_at_call 19; exact Calls.quiet_of_same (hlw _ (rdL_drewN hdr _)).out))
              go_wp2
              go_roundg (d - (k + 1))
              case measure => have := HG.out; omega
              case rel => exact ⟨k + 1, rfl, by omega, by go_num, rdL_drewN HDr.out _, rdL_drewN hdr _, below_drewN hbT _⟩
          · have hkd' : ¬ (k : Int) < (d : Int) := by omega
            go_wp2
            go_ret
            exact ⟨rfl, hbT⟩
      · have q1 : decide (10000 < (fs.length : Int)) = false := by rw [decide_eq_false_iff_not]; omega
        have q2 : ((d : Int) != (fs.length : Int)) = false := by rw [bne_eq_false_iff_eq]; omega
        clear hbig hd
        go_wp2
        go_loopg [13] d (fun g v wx => ∃ k : Nat, g = d - k ∧ k ≤ d ∧ v = .int .i64 k ∧ RdL wx da' fs ∧ RdL wx a ds ∧ Below w'.heap.size w' wx)
        case atStart => exact ⟨0, rfl, Nat.zero_le _, rfl, hDr, hdr, hbT⟩
        case round =>
          clear hDr hdr hbT
          obtain ⟨k, hg, hk, rfl, hDr, hdr, hbT⟩ := hrel
          have HG := hid hg
          have HDr := hid hDr
          clear hg
          by_cases hkd : k < d
          · have hkd' : (k : Int) < (d : Int) := by omega
            obtain ⟨db, dof, d1, d2⟩ := hDr
            obtain rfl := d1 (by omega)
            have hc := d2 k (by omega)
            have hkf : (k : Int) < (fs.length : Int) := by omega
            obtain ⟨f, hf⟩ : ∃ f, fs.getD k false = f := ⟨_, rfl⟩
            rw [hf] at hc
            have HF := hid hf
            clear hf d2
            by_cases hk64 : k < 64
            · have hlw := fun (W : World) => hid (levelWord fs fs.length k a m c W hk64 (by omega))
              generalize Wd fs fs.length = O at *
              rw [HF.out] at hlw
              go_wp2
              go_quiet ((go_at_call 19; exact Calls.quiet_of_same (hlw _).out))
              go_wp2
              go_roundg (d - (k + 1))
              case measure => have := HG.out; omega
              case rel => exact ⟨k + 1, rfl, by omega, by go_num, rdL_drewN HDr.out _, rdL_drewN hdr _, below_drewN hbT _⟩
            · have hlw := fun (W : World) (hW : RdL W a ds) => hid (levelDeep ds (Wd fs fs.length : Int) k a m c W hW HL.out (by omega) (by have := HM.out; omega) (by omega))
              rw [HGet.out k (by omega) hkd, HF.out] at hlw
              generalize Wd fs fs.length = O at *
              go_wp2
              go_quiet ((go_at_call 19; exact Calls.quiet_of_same (hlw _ (rdL_drewN hdr _)).out))
              go_wp2
              go_roundg (d - (k + 1))
              case measure => have := HG.out; omega
              case rel => exact ⟨k + 1, rfl, by omega, by go_num, rdL_drewN HDr.out _, rdL_drewN hdr _, below_drewN hbT _⟩
          · have hkd' : ¬ (k : Int) < (d : Int) := by omega
            go_wp2
            go_ret
            exact ⟨rfl, hbT⟩

end Go.Proofs.Qxb6601649a

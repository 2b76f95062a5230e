/-
  THE WALK of zzB1ModelSplit (8).
-/
import Derived.Test.Qxb6601657aZZ
namespace Go.Proofs.Qxb6601657a
open Go.RowKit

theorem below_drewN (w : World) (n : Nat) : Below w.heap.size w (w.drewN n) := ⟨rfl, rfl, rfl, Nat.le_refl _, fun _ _ => rfl⟩

/-- The best so far, as two numbers. -/
def Bo : Option (Nat × Nat) → Int → Int → Prop
  | none, A, B => A = -1 ∧ B = -1
  | some (a, b), A, B => A = (a : Int) ∧ B = (b : Int)

/-- One digit more, from the right. -/
theorem mun_step {f : Nat → Int} {st en p x : Nat} (hd : Digs f st en) (h1 : st ≤ p) (h2 : p + 1 ≤ en) (h3 : en - st ≤ 19) (hx : x = 10 ^ (en - (p + 1))) :
    ∃ d v : Int, f p = d + 48 ∧ lav f en (en - (p + 1)) = v ∧ 0 ≤ d ∧ d ≤ 9 ∧ 0 ≤ v ∧ 0 ≤ d * (x : Int) ∧ d * (x : Int) < 18446744073709551616 ∧ v + d * (x : Int) < 18446744073709551616 ∧ x * 10 < 18446744073709551616 ∧
    Hid (lav f en (en - p) = v + d * (x : Int)) ∧ Hid (x * 10 = 10 ^ (en - p)) := by
  have hz := dgt_true (hd p h1 (by omega))
  have e1 : en - p = (en - (p + 1)) + 1 := by omega
  have e2 : en - 1 - (en - (p + 1)) = p := by omega
  have L1 : lav f en (en - p) = lav f en (en - (p + 1)) + (f p - 48) * (x : Int) := by
    rw [e1, hx]
    show _ + (f (en - 1 - (en - (p + 1))) - 48) * _ = _
    rw [e2]
  have b1 := val_bd (f := f) (lo := p + 1) (en - (p + 1)) (fun k a b => hd k (by omega) (by omega))
  have b2 := val_bd (f := f) (lo := p) (en - p) (fun k a b => hd k (by omega) (by omega))
  rw [← lav_val f (p + 1) (en - (p + 1)) en (by omega)] at b1
  rw [← lav_val f p (en - p) en (by omega)] at b2
  have b3 := pow_le_top (m := en - p) (by omega)
  have e3 : x * 10 = 10 ^ (en - p) := by rw [e1, Nat.pow_succ, ← hx]
  have n1 : 0 ≤ (f p - 48) * (x : Int) := Int.mul_nonneg (by omega) (by omega)
  have HL := hid L1
  rw [L1] at b2
  refine ⟨f p - 48, _, by omega, rfl, by omega, by omega, b1.1, n1, ?_, ?_, by omega, HL, hid e3⟩
  · generalize (f p - 48) * (x : Int) = X at *
    omega
  · generalize (f p - 48) * (x : Int) = X at *
    omega

set_option maxHeartbeats 4000000 in
theorem model_any (s : ByteArray) (w : World) (hs : s.size ≤ 1048576) : Calls Try.prog 8 #[.string s] w (Splits5 s w) := by
  go_enter Try.func8, Try.ntmps8
  go_wp2
  go_loopg [7, 8, 9] s.size (fun g bs be i wr => ∃ (bo : Option (Nat × Nat)) (A B : Int) (k : Nat), g = k ∧ Bo bo A B ∧ bs = .int .i64 A ∧ be = .int .i64 B ∧ i = .int .i64 k ∧ RInv (by8 s) s.size k bo ∧ wr = w)
  case atStart => exact ⟨none, -1, -1, s.size, rfl, ⟨rfl, rfl⟩, rfl, rfl, rfl, RInv.start, rfl⟩
  case round =>
    obtain ⟨bo, A, B, k, hg, hbo, rfl, rfl, rfl, hA, hwr⟩ := hrel
    have hwr := hwr.symm
    subst hwr
    have hk := hA.le
    have hbd : ∀ a b, bo = some (a, b) → a < b ∧ b ≤ s.size := fun a b h => ⟨(hA.som a b h).1.lt, (hA.som a b h).1.le⟩
    have HG := hid hg
    have HA := hid hA
    clear hg hA
    cases k with
    | zero =>
      cases bo with
      | none =>
        obtain ⟨rfl, rfl⟩ := hbo
        go_wp2
        try simp only [Exit.inBlock, Exit.then]
        refine bodyPost_ret (results_tmp5 rfl _ _ _) rfl ?_
        exact ⟨none, HA.out.nodigit, rfl, Below.refl _ _⟩
      | some p =>
        obtain ⟨a, b⟩ := p
        obtain ⟨rfl, rfl⟩ := hbo
        have hab := hbd a b rfl
        clear hbd
        have HBE := hid HA.out.done
        have hb0 : ¬ (b : Int) < 0 := by omega
        by_cases hm : a + 19 < b
        · obtain ⟨st, rfl⟩ : ∃ st, b = st + 19 := ⟨b - 19, by omega⟩
          have HSP : Hid (Sp (by8 s) s.size (some (st, st + 19))) := hid ⟨a, HBE.out, by omega⟩
          have hm' : (19 : Int) < ((st + 19 : Nat) : Int) - a := by omega
          obtain ⟨f1, f2, f3, f4, -, -⟩ := HSP.out.facts
          go_wp2
          generalize hen : st + 19 = en at *
          have hen' : (st : Int) + 19 = (en : Int) := by omega
          simp only [hen'] at *
          clear hen'
          have HEN := hid hen
          clear hen
          have HDG := hid f4
          clear f4
          go_loopg [12, 13, 14] (en - st) (fun g num ww i wr => ∃ q x : Nat, g = q - st ∧ st ≤ q ∧ q ≤ en ∧ num = .int .u64 (lav (by8 s) en (en - q)) ∧ x = 10 ^ (en - q) ∧ ww = .int .u64 x ∧ i = .int .i64 ((q : Int) - 1) ∧ wr = w)
          case atStart => exact ⟨en, 1, rfl, by omega, Nat.le_refl _, by rw [Nat.sub_self]; rfl, by rw [Nat.sub_self], rfl, by first | rfl | exact congrArg (Value.int .i64) (by have := HEN.out; omega), rfl⟩
          case round =>
            obtain ⟨q, x, hg, h1, h2, rfl, hx, rfl, rfl, hwr⟩ := hrel
            have hwr := hwr.symm
            subst hwr
            have HGG := hid hg
            have HX := hid hx
            clear hg hx
            by_cases hlt3 : st < q
            · obtain ⟨p, rfl⟩ : ∃ p, q = p + 1 := ⟨q - 1, by omega⟩
              have hps : p < s.size := by omega
              have e := by8_eq hps
              obtain ⟨d, v, hd, hv, d0, d1, v0, v1, v2, v3, v4, HV, HXX⟩ := mun_step HDG.out (by omega) h2 f3 HX.out
              rw [hd] at e
              rw [hv]
              have HE := hid hd
              clear hd hv
              have hge : (st : Int) ≤ (p : Int) := by omega
              go_wp2
              go_roundg (p - st)
              case measure => have := HGG.out; omega
              case rel => exact ⟨p, x * 10, rfl, by omega, by omega, by rw [HV.out], HXX.out, by go_num, rfl, rfl⟩
            · obtain rfl : q = st := by omega
              have hge : ¬ (q : Int) ≤ (q : Int) - 1 := by omega
              have hge2 : decide ((q : Int) ≤ (q : Int) - 1) = false := by simp; omega
              have HL : Hid (lav (by8 s) en (en - q) = val (by8 s) q (en - q)) := hid (lav_val (by8 s) q (en - q) en (by omega))
              have g1 : (0 : Int) ≤ (q : Int) := by omega
              have g2 : (q : Int) ≤ (s.size : Int) := by omega
              have g3 : (en : Int) ≤ (s.size : Int) := by omega
              go_wp2
              go_region
              go_wp2
              try simp only [Exit.inBlock, Exit.then]
              refine bodyPost_ret (results_tmp5 rfl _ _ _) rfl ?_
              exact ⟨some (q, en), HSP.out, by rw [HL.out]; rfl, (Below.refl _ _).drew⟩
        · have HSP : Hid (Sp (by8 s) s.size (some (a, b))) := hid ⟨a, HBE.out, by omega⟩
          have hm' : ¬ (19 : Int) < (b : Int) - a := by omega
          obtain ⟨f1, f2, f3, f4, -, -⟩ := HSP.out.facts
          go_wp2
          have HDG := hid f4
          clear f4
          go_loopg [12, 13, 14] (b - a) (fun g num ww i wr => ∃ q x : Nat, g = q - a ∧ a ≤ q ∧ q ≤ b ∧ num = .int .u64 (lav (by8 s) b (b - q)) ∧ x = 10 ^ (b - q) ∧ ww = .int .u64 x ∧ i = .int .i64 ((q : Int) - 1) ∧ wr = w)
          case atStart => exact ⟨b, 1, rfl, by omega, Nat.le_refl _, by rw [Nat.sub_self]; rfl, by rw [Nat.sub_self], rfl, by first | rfl | exact congrArg (Value.int .i64) (by have := HEN.out; omega), rfl⟩
          case round =>
            obtain ⟨q, x, hg, h1, h2, rfl, hx, rfl, rfl, hwr⟩ := hrel
            have hwr := hwr.symm
            subst hwr
            have HGG := hid hg
            have HX := hid hx
            clear hg hx
            by_cases hlt3 : a < q
            · obtain ⟨p, rfl⟩ : ∃ p, q = p + 1 := ⟨q - 1, by omega⟩
              have hps : p < s.size := by omega
              have e := by8_eq hps
              obtain ⟨d, v, hd, hv, d0, d1, v0, v1, v2, v3, v4, HV, HXX⟩ := mun_step HDG.out (by omega) h2 f3 HX.out
              rw [hd] at e
              rw [hv]
              have HE := hid hd
              clear hd hv
              have hge : (a : Int) ≤ (p : Int) := by omega
              go_wp2
              go_roundg (p - a)
              case measure => have := HGG.out; omega
              case rel => exact ⟨p, x * 10, rfl, by omega, by omega, by rw [HV.out], HXX.out, by go_num, rfl, rfl⟩
            · obtain rfl : q = a := by omega
              have hge : ¬ (q : Int) ≤ (q : Int) - 1 := by omega
              have hge2 : decide ((q : Int) ≤ (q : Int) - 1) = false := by simp; omega
              have HL : Hid (lav (by8 s) b (b - q) = val (by8 s) q (b - q)) := hid (lav_val (by8 s) q (b - q) b (by omega))
              have g1 : (0 : Int) ≤ (q : Int) := by omega
              have g2 : (q : Int) ≤ (s.size : Int) := by omega
              have g3 : (b : Int) ≤ (s.size : Int) := by omega
              go_wp2
              go_region
              go_wp2
              try simp only [Exit.inBlock, Exit.then]
              refine bodyPost_ret (results_tmp5 rfl _ _ _) rfl ?_
              exact ⟨some (q, b), HSP.out, by rw [HL.out]; rfl, (Below.refl _ _).drew⟩
    | succ k =>
      have hks : k < s.size := by omega
      have e := by8_eq hks
      by_cases hd : dgt (by8 s k) = true
      · have HD := hid hd
        clear hd
        go_wp2_with (go_at_call 12; refine (dig12_yes _ HD.out _).mono ?_; rintro e' w' ⟨rfl, hw'⟩; have hw' := hw'.symm; subst hw')
        go_loopg [10] k (fun g v wr => ∃ j : Nat, g = j ∧ j ≤ k ∧ v = .int .i64 j ∧ Digs (by8 s) j (k + 1) ∧ wr = w)
        case atStart => exact ⟨k, rfl, Nat.le_refl _, by go_num, Digs.one HD.out, rfl⟩
        case round =>
          obtain ⟨j, hg, hj, rfl, hB, hwr⟩ := hrel
          have hwr := hwr.symm
          subst hwr
          have HGG := hid hg
          have HB := hid hB
          clear hg hB e
          cases j with
          | zero =>
            cases bo with
            | none =>
              obtain ⟨rfl, rfl⟩ := hbo
              go_wp2
              go_roundg 0
              case measure => have := HG.out; omega
              case rel => exact ⟨some (0, k + 1), _, _, 0, rfl, ⟨rfl, rfl⟩, rfl, by go_num, by go_num, HA.out.take (by omega) HB.out (.inl rfl) (fun _ _ h => by cases h), rfl⟩
            | some p =>
              obtain ⟨a, b⟩ := p
              obtain ⟨rfl, rfl⟩ := hbo
              have hab := hbd a b rfl
              have hb0 : ¬ (b : Int) < 0 := by omega
              by_cases hl : b - a < k + 1 - 0
              · have hl' : (b : Int) - a < (k : Int) + 1 - 0 := by omega
                go_wp2
                go_roundg 0
                case measure => have := HG.out; omega
                case rel => exact ⟨some (0, k + 1), _, _, 0, rfl, ⟨rfl, rfl⟩, by go_num, by go_num, by go_num, HA.out.take (by omega) HB.out (.inl rfl) (fun _ _ h => by cases h; exact hl), rfl⟩
              · have hl' : ¬ (b : Int) - a < (k : Int) + 1 - 0 := by omega
                go_wp2
                go_roundg 0
                case measure => have := HG.out; omega
                case rel => exact ⟨some (a, b), _, _, 0, rfl, ⟨rfl, rfl⟩, rfl, rfl, by go_num, HA.out.leave (by omega) HB.out (.inl rfl) hl, rfl⟩
          | succ q =>
            have hqs : q < s.size := by omega
            have e := by8_eq hqs
            by_cases hd : dgt (by8 s q) = true
            · have HD2 := hid hd
              clear hd
              go_wp2_with (go_at_call 12; refine (dig12_yes _ HD2.out _).mono ?_; rintro e' w' ⟨rfl, rfl⟩)
              go_roundg q
              case measure => have := HGG.out; omega
              case rel => exact ⟨q, rfl, by omega, by go_num, HB.out.cons HD2.out, rfl⟩
            · have HD2 := hid hd
              clear hd
              cases bo with
              | none =>
                obtain ⟨rfl, rfl⟩ := hbo
                go_wp2_with (go_at_call 12; refine (dig12_no _ HD2.out _).mono ?_; rintro e' w' ⟨rfl, rfl⟩)
                go_roundg (q + 1)
                case measure => have := HG.out; omega
                case rel => exact ⟨some ((q + 1), k + 1), _, _, (q + 1), rfl, ⟨rfl, rfl⟩, rfl, by go_num, by go_num, HA.out.take (by omega) HB.out (.inr HD2.out) (fun _ _ h => by cases h), rfl⟩
              | some p =>
                obtain ⟨a, b⟩ := p
                obtain ⟨rfl, rfl⟩ := hbo
                have hab := hbd a b rfl
                have hb0 : ¬ (b : Int) < 0 := by omega
                by_cases hl : b - a < k + 1 - (q + 1)
                · have hl' : (b : Int) - a < (k : Int) + 1 - (q + 1) := by omega
                  go_wp2_with (go_at_call 12; refine (dig12_no _ HD2.out _).mono ?_; rintro e' w' ⟨rfl, rfl⟩)
                  go_roundg (q + 1)
                  case measure => have := HG.out; omega
                  case rel => exact ⟨some ((q + 1), k + 1), _, _, (q + 1), rfl, ⟨rfl, rfl⟩, by go_num, by go_num, by go_num, HA.out.take (by omega) HB.out (.inr HD2.out) (fun _ _ h => by cases h; exact hl), rfl⟩
                · have hl' : ¬ (b : Int) - a < (k : Int) + 1 - (q + 1) := by omega
                  go_wp2_with (go_at_call 12; refine (dig12_no _ HD2.out _).mono ?_; rintro e' w' ⟨rfl, rfl⟩)
                  go_roundg (q + 1)
                  case measure => have := HG.out; omega
                  case rel => exact ⟨some (a, b), _, _, (q + 1), rfl, ⟨rfl, rfl⟩, rfl, rfl, by go_num, HA.out.leave (by omega) HB.out (.inr HD2.out) hl, rfl⟩
      · have HD := hid hd
        clear hd
        go_wp2_with (go_at_call 12; refine (dig12_no _ HD.out _).mono ?_; rintro e' w' ⟨rfl, rfl⟩)
        go_roundg k
        case measure => have := HG.out; omega
        case rel => exact ⟨bo, A, B, k, rfl, hbo, rfl, rfl, by go_num, HA.out.skip HD.out, rfl⟩

end Go.Proofs.Qxb6601657a

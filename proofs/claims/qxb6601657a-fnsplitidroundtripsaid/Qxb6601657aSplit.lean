/-
  THE WALK of splitID (15).
-/
import Derived.Test.Qxb6601657aSmall
import Derived.BigQuiet
namespace Go.Proofs.Qxb6601657a
open Go.RowKit

/-- splitID's answer as a value. -/
def tup15 (s : ByteArray) : Option (Nat × Nat) → Value
  | none => .tuple #[.agg #[.string ⟨#[]⟩, .string ⟨#[]⟩, .int .i64 0], .int .u64 0, .bool false]
  | some (st, en) => .tuple #[.agg #[.string (s.extract 0 st), .string (s.extract en s.size), .int .i64 ((en : Int) - st)], .int .u64 (val (by8 s) st (en - st)), .bool true]

def Splits (s : ByteArray) (w : World) (e : Ending) (w' : World) : Prop :=
  ∃ r, Sp (by8 s) s.size r ∧ e = .returned (tup15 s r) ∧ Below w.heap.size w w'

/-- One digit more. -/
theorem num_step {f : Nat → Int} {st en q : Nat} (hd : Digs f st en) (h1 : st ≤ q) (h2 : q < en) (h3 : en - st ≤ 19) :
    0 ≤ val f st (q - st) ∧ val f st (q - st) * 10 < 18446744073709551616 ∧ 48 ≤ f q ∧ f q ≤ 57 ∧ val f st (q - st) * 10 + (f q - 48) < 18446744073709551616 ∧
    Hid (val f st (q + 1 - st) = val f st (q - st) * 10 + (f q - 48)) := by
  have hz := dgt_true (hd q h1 h2)
  have e1 : q + 1 - st = (q - st) + 1 := by omega
  have e2 : st + (q - st) = q := by omega
  have e3 : val f st (q - st + 1) = val f st (q - st) * 10 + (f q - 48) := by
    show _ * 10 + (f (st + (q - st)) - 48) = _
    rw [e2]
  have b1 := val_bd (f := f) (lo := st) (q - st) (fun k x y => hd k x (by omega))
  have b2 := val_bd (f := f) (lo := st) (q - st + 1) (fun k x y => hd k x (by omega))
  have b3 := pow_le_top (m := q - st + 1) (by omega)
  rw [e1]
  have HV := hid e3
  rw [e3] at b2
  generalize val f st (q - st) = v at *
  refine ⟨b1.1, by omega, hz.1, hz.2, by omega, HV⟩

/-- The world with the result's struct in it. -/
def W0 (w : World) : World := w.alloc (Obj.cells #[Value.string { data := #[] }, Value.string { data := #[] }, Value.int IntKind.i64 0] 31)

theorem fold_W0 (w : World) : w.alloc (Obj.cells #[Value.string { data := #[] }, Value.string { data := #[] }, Value.int IntKind.i64 0] 31) = W0 w := rfl
theorem below_W0 (w : World) : Below w.heap.size w (W0 w) := (Below.refl _ _).alloc (Nat.le_refl _) _

set_option maxHeartbeats 4000000 in
theorem split_any (s : ByteArray) (w : World) (hs : s.size ≤ 1048576) : Calls Try.prog 15 #[.string s] w (Splits s w) := by
  go_enter Try.func15, Try.ntmps15
  go_wp2
  go_loopg [5, 6, 7] s.size (fun g st en i wr => ∃ a b k : Nat, g = s.size - k ∧ st = .int .i64 a ∧ en = .int .i64 b ∧ i = .int .i64 k ∧ LInv (by8 s) s.size k a b ∧ wr = w.alloc (Obj.cells #[Value.string { data := #[] }, Value.string { data := #[] }, Value.int IntKind.i64 0] 31))
  case atStart => exact ⟨0, 0, 0, rfl, rfl, rfl, rfl, LInv.start, rfl⟩
  case round =>
    obtain ⟨a, b, k, hg, rfl, rfl, rfl, hA, hwr⟩ := hrel
    subst hwr
    have hk := hA.le
    have hab : a ≤ b ∧ b ≤ k := by
      rcases hA.best with ⟨h1, h2, h3⟩ | ⟨h1, h2, h3⟩
      · omega
      · have := h1.lt; omega
    have HG := hid hg
    have HA := hid hA
    clear hg hA
    by_cases hlt : k < s.size
    · have e := by8_eq hlt
      by_cases hd : dgt (by8 s k) = true
      · have HD := hid hd
        clear hd
        go_wp2_with (go_at_call 16; refine (dig16_yes _ HD.out _).mono ?_; rintro e' w' ⟨rfl, rfl⟩)
        go_loopg [8] (s.size - (k + 1)) (fun g v wr => ∃ j : Nat, g = s.size - j ∧ k < j ∧ j ≤ s.size ∧ v = .int .i64 j ∧ Digs (by8 s) k j ∧ wr = w.alloc (Obj.cells #[Value.string { data := #[] }, Value.string { data := #[] }, Value.int IntKind.i64 0] 31))
        case atStart => exact ⟨k + 1, rfl, by omega, by omega, by go_num, Digs.one HD.out, rfl⟩
        case round =>
          obtain ⟨j, hg, hkj, hj, rfl, hB, hwr⟩ := hrel
          subst hwr
          have HGG := hid hg
          have HB := hid hB
          clear hg hB e
          by_cases hlt2 : j < s.size
          · have e := by8_eq hlt2
            by_cases hd : dgt (by8 s j) = true
            · have HD2 := hid hd
              clear hd
              go_wp2_with (go_at_call 16; refine (dig16_yes _ HD2.out _).mono ?_; rintro e' w' ⟨rfl, rfl⟩)
              go_roundg (s.size - (j + 1))
              case measure => have := HGG.out; omega
              case rel => exact ⟨j + 1, rfl, by omega, by omega, by go_num, HB.out.snoc HD2.out, rfl⟩
            · have HD2 := hid hd
              clear hd
              by_cases hl : b - a ≤ j - k
              · have hl' : (b : Int) - a ≤ (j : Int) - k := by omega
                go_wp2_with (go_at_call 16; refine (dig16_no _ HD2.out _).mono ?_; rintro e' w' ⟨rfl, rfl⟩)
                go_roundg (s.size - j)
                case measure => have := HG.out; omega
                case rel => exact ⟨k, j, j, rfl, rfl, rfl, rfl, HA.out.take hkj hj HB.out (.inr HD2.out) hl, rfl⟩
              · have hl' : ¬ (b : Int) - a ≤ (j : Int) - k := by omega
                go_wp2_with (go_at_call 16; refine (dig16_no _ HD2.out _).mono ?_; rintro e' w' ⟨rfl, rfl⟩)
                go_roundg (s.size - j)
                case measure => have := HG.out; omega
                case rel => exact ⟨a, b, j, rfl, rfl, rfl, rfl, HA.out.leave hkj hj HB.out (.inr HD2.out) hl, rfl⟩
          · have hjn : j = s.size := by omega
            have HJN := hid hjn
            clear hjn
            by_cases hl : b - a ≤ j - k
            · have hl' : (b : Int) - a ≤ (j : Int) - k := by omega
              go_wp2
              go_roundg (s.size - j)
              case measure => have := HG.out; omega
              case rel => exact ⟨k, j, j, rfl, rfl, rfl, rfl, HA.out.take hkj hj HB.out (.inl HJN.out) hl, rfl⟩
            · have hl' : ¬ (b : Int) - a ≤ (j : Int) - k := by omega
              go_wp2
              go_roundg (s.size - j)
              case measure => have := HG.out; omega
              case rel => exact ⟨a, b, j, rfl, rfl, rfl, rfl, HA.out.leave hkj hj HB.out (.inl HJN.out) hl, rfl⟩
      · have HD := hid hd
        clear hd
        go_wp2_with (go_at_call 16; refine (dig16_no _ HD.out _).mono ?_; rintro e' w' ⟨rfl, rfl⟩)
        go_roundg (s.size - (k + 1))
        case measure => have := HG.out; omega
        case rel => exact ⟨a, b, k + 1, rfl, rfl, rfl, by go_num, HA.out.skip hlt HD.out, rfl⟩
    · obtain rfl : k = s.size := by omega
      by_cases hb : b = 0
      · subst hb
        go_wp2
        exact bodyPost_ret (v := tup15 s none) (by simp [tup15, results, Try.results15, go_sem]) rfl ⟨none, HA.out.none, rfl, below_W0 w⟩
      · have hbest := HA.out.done hb
        have hrl := hbest.run.lt
        have HBE := hid hbest
        clear hbest
        have hb' : ((b : Int) == 0) = false := by rw [beq_eq_false_iff_ne]; omega
        by_cases hm : a + 19 < b
        · obtain ⟨st, rfl⟩ : ∃ st, b = st + 19 := ⟨b - 19, by omega⟩
          have HSP : Hid (Sp (by8 s) s.size (some (st, st + 19))) := hid ⟨a, HBE.out, by omega⟩
          have hm' : (st : Int) > a := by omega
          obtain ⟨f1, f2, f3, f4, -, -⟩ := HSP.out.facts
          go_wp2
          generalize st + 19 = en at *
          have HDG := hid f4
          clear f4
          go_loopg [9, 10] (en - st) (fun g num i wr => ∃ q : Nat, g = en - q ∧ st ≤ q ∧ q ≤ en ∧ num = .int .u64 (val (by8 s) st (q - st)) ∧ i = .int .i64 q ∧ wr = w.alloc (Obj.cells #[Value.string { data := #[] }, Value.string { data := #[] }, Value.int IntKind.i64 0] 31))
          case atStart => exact ⟨st, rfl, Nat.le_refl _, by omega, by rw [Nat.sub_self]; rfl, rfl, rfl⟩
          case round =>
            obtain ⟨q, hg, h1, h2, rfl, rfl, hwr⟩ := hrel
            subst hwr
            have HGG := hid hg
            clear hg
            by_cases hlt3 : q < en
            · have hqs : q < s.size := by omega
              have e := by8_eq hqs
              obtain ⟨v0, v1, z0, z1, v2, HV⟩ := num_step HDG.out h1 hlt3 f3
              obtain ⟨z, hz⟩ : ∃ z, by8 s q = z := ⟨_, rfl⟩
              obtain ⟨v, hv⟩ : ∃ v, val (by8 s) st (q - st) = v := ⟨_, rfl⟩
              rw [hz] at e z0 z1 v2 HV
              rw [hv] at v0 v1 v2 HV ⊢
              clear hz hv
              go_wp2
              go_roundg (en - (q + 1))
              case measure => have := HGG.out; omega
              case rel => exact ⟨q + 1, rfl, by omega, by omega, by rw [HV.out]; try go_num, by go_num, rfl⟩
            · obtain rfl : q = en := by omega
              have g1 : (0 : Int) ≤ (st : Int) := by omega
              have g2 : (st : Int) ≤ (s.size : Int) := by omega
              have g3 : (q : Int) ≤ (s.size : Int) := by omega
              go_wp2
              go_region
              go_wp2
              exact bodyPost_ret (v := tup15 s (some (st, q))) (by simp [tup15, results, Try.results15, go_sem]) rfl ⟨_, HSP.out, rfl, ((Below.refl _ _).alloc (Nat.le_refl _) _).drew⟩
        · have HSP : Hid (Sp (by8 s) s.size (some (a, b))) := hid ⟨a, HBE.out, by omega⟩
          have hm' : ¬ (b : Int) - 19 > a := by omega
          obtain ⟨f1, f2, f3, f4, -, -⟩ := HSP.out.facts
          go_wp2
          have HDG := hid f4
          clear f4
          go_loopg [9, 10] (b - a) (fun g num i wr => ∃ q : Nat, g = b - q ∧ a ≤ q ∧ q ≤ b ∧ num = .int .u64 (val (by8 s) a (q - a)) ∧ i = .int .i64 q ∧ wr = w.alloc (Obj.cells #[Value.string { data := #[] }, Value.string { data := #[] }, Value.int IntKind.i64 0] 31))
          case atStart => exact ⟨a, rfl, Nat.le_refl _, by omega, by rw [Nat.sub_self]; rfl, rfl, rfl⟩
          case round =>
            obtain ⟨q, hg, h1, h2, rfl, rfl, hwr⟩ := hrel
            subst hwr
            have HGG := hid hg
            clear hg
            by_cases hlt3 : q < b
            · have hqs : q < s.size := by omega
              have e := by8_eq hqs
              obtain ⟨v0, v1, z0, z1, v2, HV⟩ := num_step HDG.out h1 hlt3 f3
              obtain ⟨z, hz⟩ : ∃ z, by8 s q = z := ⟨_, rfl⟩
              obtain ⟨v, hv⟩ : ∃ v, val (by8 s) a (q - a) = v := ⟨_, rfl⟩
              rw [hz] at e z0 z1 v2 HV
              rw [hv] at v0 v1 v2 HV ⊢
              clear hz hv
              go_wp2
              go_roundg (b - (q + 1))
              case measure => have := HGG.out; omega
              case rel => exact ⟨q + 1, rfl, by omega, by omega, by rw [HV.out]; try go_num, by go_num, rfl⟩
            · obtain rfl : q = b := by omega
              have g1 : (0 : Int) ≤ (a : Int) := by omega
              have g2 : (a : Int) ≤ (s.size : Int) := by omega
              have g3 : (q : Int) ≤ (s.size : Int) := by omega
              go_wp2
              go_region
              go_wp2
              exact bodyPost_ret (v := tup15 s (some (a, q))) (by simp [tup15, results, Try.results15, go_sem]) rfl ⟨_, HSP.out, rfl, ((Below.refl _ _).alloc (Nat.le_refl _) _).drew⟩

end Go.Proofs.Qxb6601657a

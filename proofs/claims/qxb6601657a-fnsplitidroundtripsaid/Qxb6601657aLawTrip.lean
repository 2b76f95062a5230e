/-
  THE WALK of FnSplitIDRoundTrip (4).
-/
import Derived.Test.Qxb6601657aZZ
import Derived.Test.Qxb6601657aPad
namespace Go.Proofs.Qxb6601657a
open Go.RowKit

theorem by8_extract (s : ByteArray) (a b k : Nat) (h : k < b - a) (hb : b ≤ s.size) : by8 (s.extract a b) k = by8 s (a + k) := by
  have h1 : k < min b s.size - a := by omega
  have h2 : a + k < s.size := by omega
  simp [by8, h1, h2, ByteArray.getElem_extract]

theorem lst_extract (s : ByteArray) (st m : Nat) (h : st + m ≤ s.size) : strOfNums (lst (by8 s) st m) = s.extract st (st + m) := by
  apply ByteArray.ext_getElem
  · rw [strOfNums_size, lst_length, ByteArray.size_extract]; omega
  · intro i h1 h2
    rw [strOfNums_size, lst_length] at h1
    have h3 : st + i < s.size := by omega
    rw [ByteArray.getElem_extract]
    simp [strOfNums, lst, by8, h3, ByteArray.getElem_eq_getElem_data]

theorem join (s : ByteArray) (st m : Nat) (h : st + m ≤ s.size) : s.extract 0 st ++ strOfNums (lst (by8 s) st m) ++ s.extract (st + m) s.size = s := by
  have e1 : min 0 st = 0 := by omega
  have e2 : max st (st + m) = st + m := by omega
  have e3 : max (st + m) s.size = s.size := by omega
  rw [lst_extract s st m h, ByteArray.extract_append_extract, e1, e2, ByteArray.extract_append_extract, e3]
  simp

def Yes4 (w : World) (e : Ending) (w' : World) : Prop := e = .returned (.bool true) ∧ Below w.heap.size w w'

theorem below_two4 {w w1 w2 : World} (h : Below w.heap.size w w1) (g : Below w1.heap.size w1 w2) : Below w.heap.size w w2 :=
  h.trans (g.mono h.size)

/-- What is known of the pieces that were found. -/
structure Pieces (s A B P : ByteArray) (m : Nat) (v X : Int) : Prop where
  one : 1 ≤ m
  top : m ≤ 19
  small : v < X
  nonneg : 0 ≤ v
  after : B.size = 0 ∨ (0 < B.size ∧ ¬ dgt (by8 B 0) = true)
  before : m = 19 ∨ A.size = 0 ∨ (0 < A.size ∧ ¬ dgt (by8 A (A.size - 1)) = true)
  cat : A ++ P ++ B = s

theorem pieces {s : ByteArray} {st en : Nat} (h : Sp (by8 s) s.size (some (st, en))) :
    Pieces s (s.extract 0 st) (s.extract en s.size) (strOfNums (lst (by8 s) st (en - st))) (en - st) (val (by8 s) st (en - st)) ((10 ^ (en - st) : Nat) : Int) := by
  obtain ⟨f1, f2, f3, f4, f5, f6⟩ := h.facts
  have em : st + (en - st) = en := by omega
  have vb := val_bd (f := by8 s) (lo := st) (en - st) (by rw [em]; exact f4)
  refine ⟨by omega, f3, vb.2, vb.1, ?_, ?_, ?_⟩
  · rcases f5 with e | e
    · left; rw [ByteArray.size_extract]; omega
    · by_cases h0 : en = s.size
      · left; rw [ByteArray.size_extract]; omega
      · right
        refine ⟨by rw [ByteArray.size_extract]; omega, ?_⟩
        rw [by8_extract s en s.size 0 (by omega) (Nat.le_refl _)]
        exact e
  · by_cases h9 : en - st = 19
    · left; exact h9
    · right
      rcases f6 (by omega) with e | e
      · left; rw [ByteArray.size_extract]; omega
      · by_cases h0 : st = 0
        · left; rw [ByteArray.size_extract]; omega
        · right
          have hsz : (s.extract 0 st).size = st := by rw [ByteArray.size_extract]; omega
          refine ⟨by omega, ?_⟩
          rw [hsz, by8_extract s 0 st (st - 1) (by omega) (by omega), Nat.zero_add]
          exact e
  · have := join s st (en - st) (by omega)
    rw [em] at this
    exact this


set_option maxHeartbeats 4000000 in
theorem law4 (s : ByteArray) (w : World) (hs : s.size ≤ maxLen) : Calls Try.prog 4 #[.string s] w (Yes4 w) := by
  have hs' := hs
  unfold maxLen at hs'
  go_enter Try.func4, Try.ntmps4
  go_wp2_with fail
  refine (zz9_any s _ hs).mono ?_
  rintro e w1 ⟨b, rfl, hw⟩
  have hw := hw.symm
  subst hw
  cases b with
  | false =>
    go_wp2
    go_ret
    exact ⟨rfl, Below.refl _ _⟩
  | true =>
    by_cases hn : 1048576 < s.size
    · have hn' : (1048576 : Int) < (s.size : Int) := by omega
      go_wp2
      go_ret
      exact ⟨rfl, Below.refl _ _⟩
    · have hn' : ¬ (1048576 : Int) < (s.size : Int) := by omega
      have hle : s.size ≤ 1048576 := by omega
      go_wp2_with fail
      refine (zz7_any s _ hle).mono ?_
      rintro e w1 ⟨r, hr, rfl, hb⟩
      have HR := hid hr
      have HBW := hid hb
      clear hr hb
      cases r with
      | none =>
        simp only [tup7]
        go_wp2_with fail
        refine (has_any s _ hle).mono ?_
        rintro e w2 ⟨b, rfl, hyes, hno, hw⟩
        have hw := hw.symm
        subst hw
        cases b with
        | true =>
          obtain ⟨k, hk, hd⟩ := hyes rfl
          exact absurd hd (HR.out k hk)
        | false =>
          clear hyes hno
          go_wp2
          go_ret
          exact ⟨rfl, HBW.out⟩
      | some p =>
        obtain ⟨st, en⟩ := p
        obtain ⟨f1, f2, f3, f4, -, -⟩ := HR.out.facts
        have hp := pieces HR.out
        have em : ((en : Int) - st) = ((en - st : Nat) : Int) := by omega
        have em2 : st + (en - st) = en := by omega
        have hpad := fun w => pad_any (by8 s) st (en - st) w hp.one hp.top (by rw [em2]; exact f4)
        have hdig : dgt (by8 s st) = true := f4 st (Nat.le_refl _) f1
        have hpow := fun w => pow_any (en - st) hp.top w
        simp only [tup7, em]
        have HPAD := hid hpad
        have HPOW := hid hpow
        clear hpad hpow em em2 f4
        unfold Padded at HPAD
        unfold Pow at HPOW
        have hsA : (s.extract 0 st).size ≤ 1048576 := by rw [ByteArray.size_extract]; omega
        have hsB : (s.extract en s.size).size ≤ 1048576 := by rw [ByteArray.size_extract]; omega
        have hsP : (strOfNums (lst (by8 s) st (en - st))).size ≤ 19 := by rw [strOfNums_size, lst_length]; omega
        generalize s.extract 0 st = A at *
        generalize s.extract en s.size = B at *
        generalize strOfNums (lst (by8 s) st (en - st)) = P at *
        generalize val (by8 s) st (en - st) = v at *
        generalize ((10 ^ (en - st) : Nat) : Int) = X at *
        generalize en - st = m at *
        go_wp2_with fail
        refine (has_any s _ hle).mono ?_
        rintro e w2 ⟨b, rfl, hyes, hno, hw⟩
        have hw := hw.symm
        subst hw
        cases b with
        | false => exact absurd hdig (hno rfl st (by omega))
        | true =>
          clear hyes hno
          have HD := hid hdig
          clear hdig
          obtain ⟨p1, p2, p3, p4, p5, p6, p7⟩ := hp
          have t1 : ¬ (m : Int) < 1 := by omega
          have t2 : ¬ (19 : Int) < (m : Int) := by omega
          have t3 : ¬ X ≤ v := by omega
          have HCAT := hid p7
          clear p7
          go_wp2_with fail
          refine (HPOW.out _).mono ?_
          rintro e w2 ⟨rfl, hw⟩
          have hw := hw.symm
          subst hw
          rcases p5 with hB | ⟨hB, hBd⟩
          · have hB' : ¬ (0 : Int) < (B.size : Int) := by omega
            clear hB
            rcases p6 with h9 | hA | ⟨hA, hAd⟩
            · have h9' : ¬ (m : Int) < 19 := by omega
              clear h9
              go_wp2_with fail
              refine (HPAD.out _).mono ?_
              rintro e w2 ⟨rfl, hb2⟩
              have HB2 := hid hb2
              clear hb2
              have u1 : ¬ 9223372036854775807 < A.size + P.size := by omega
              have u2 : ¬ 9223372036854775807 < A.size + P.size + B.size := by omega
              have c1 := HCAT.out
              go_wp2
              go_ret
              exact ⟨rfl, below_two4 HBW.out HB2.out⟩
            · by_cases h9 : m < 19
              · have h9' : (m : Int) < 19 := by omega
                have hA' : ¬ (0 : Int) < (A.size : Int) := by omega
                clear hA
                go_wp2_with fail
                refine (HPAD.out _).mono ?_
                rintro e w2 ⟨rfl, hb2⟩
                have HB2 := hid hb2
                clear hb2
                have u1 : ¬ 9223372036854775807 < A.size + P.size := by omega
                have u2 : ¬ 9223372036854775807 < A.size + P.size + B.size := by omega
                have c1 := HCAT.out
                go_wp2
                go_ret
                exact ⟨rfl, below_two4 HBW.out HB2.out⟩
              · have h9' : ¬ (m : Int) < 19 := by omega
                clear hA
                go_wp2_with fail
                refine (HPAD.out _).mono ?_
                rintro e w2 ⟨rfl, hb2⟩
                have HB2 := hid hb2
                clear hb2
                have u1 : ¬ 9223372036854775807 < A.size + P.size := by omega
                have u2 : ¬ 9223372036854775807 < A.size + P.size + B.size := by omega
                have c1 := HCAT.out
                go_wp2
                go_ret
                exact ⟨rfl, below_two4 HBW.out HB2.out⟩
            · by_cases h9 : m < 19
              · have h9' : (m : Int) < 19 := by omega
                obtain ⟨k, hk⟩ : ∃ k, A.size = k + 1 := ⟨A.size - 1, by omega⟩
                rw [hk, Nat.add_sub_cancel] at hAd
                have hA' : (0 : Int) < (A.size : Int) := by omega
                have hk' : (A.size : Int) - 1 = (k : Int) := by omega
                have hkA : k < A.size := by omega
                have e2 := by8_eq hkA
                clear hk
                have HAD := hid hAd
                clear hAd
                go_wp2_with fail
                refine (dig12_no _ HAD.out _).mono ?_
                rintro e' w' ⟨rfl, hw'⟩
                have hw' := hw'.symm
                subst hw'
                go_wp2_with fail
                refine (HPAD.out _).mono ?_
                rintro e w2 ⟨rfl, hb2⟩
                have HB2 := hid hb2
                clear hb2
                have u1 : ¬ 9223372036854775807 < A.size + P.size := by omega
                have u2 : ¬ 9223372036854775807 < A.size + P.size + B.size := by omega
                have c1 := HCAT.out
                go_wp2
                go_ret
                exact ⟨rfl, below_two4 HBW.out HB2.out⟩
              · have h9' : ¬ (m : Int) < 19 := by omega
                clear hA
                go_wp2_with fail
                refine (HPAD.out _).mono ?_
                rintro e w2 ⟨rfl, hb2⟩
                have HB2 := hid hb2
                clear hb2
                have u1 : ¬ 9223372036854775807 < A.size + P.size := by omega
                have u2 : ¬ 9223372036854775807 < A.size + P.size + B.size := by omega
                have c1 := HCAT.out
                go_wp2
                go_ret
                exact ⟨rfl, below_two4 HBW.out HB2.out⟩

          · have hB' : (0 : Int) < (B.size : Int) := by omega
            have e1 := by8_eq hB
            have HBD := hid hBd
            clear hBd
            go_wp2_with fail
            refine (dig12_no _ HBD.out _).mono ?_
            rintro e' w' ⟨rfl, hw'⟩
            have hw' := hw'.symm
            subst hw'
            rcases p6 with h9 | hA | ⟨hA, hAd⟩
            · have h9' : ¬ (m : Int) < 19 := by omega
              clear h9
              go_wp2_with fail
              refine (HPAD.out _).mono ?_
              rintro e w2 ⟨rfl, hb2⟩
              have HB2 := hid hb2
              clear hb2
              have u1 : ¬ 9223372036854775807 < A.size + P.size := by omega
              have u2 : ¬ 9223372036854775807 < A.size + P.size + B.size := by omega
              have c1 := HCAT.out
              go_wp2
              go_ret
              exact ⟨rfl, below_two4 HBW.out HB2.out⟩
            · by_cases h9 : m < 19
              · have h9' : (m : Int) < 19 := by omega
                have hA' : ¬ (0 : Int) < (A.size : Int) := by omega
                clear hA
                go_wp2_with fail
                refine (HPAD.out _).mono ?_
                rintro e w2 ⟨rfl, hb2⟩
                have HB2 := hid hb2
                clear hb2
                have u1 : ¬ 9223372036854775807 < A.size + P.size := by omega
                have u2 : ¬ 9223372036854775807 < A.size + P.size + B.size := by omega
                have c1 := HCAT.out
                go_wp2
                go_ret
                exact ⟨rfl, below_two4 HBW.out HB2.out⟩
              · have h9' : ¬ (m : Int) < 19 := by omega
                clear hA
                go_wp2_with fail
                refine (HPAD.out _).mono ?_
                rintro e w2 ⟨rfl, hb2⟩
                have HB2 := hid hb2
                clear hb2
                have u1 : ¬ 9223372036854775807 < A.size + P.size := by omega
                have u2 : ¬ 9223372036854775807 < A.size + P.size + B.size := by omega
                have c1 := HCAT.out
                go_wp2
                go_ret
                exact ⟨rfl, below_two4 HBW.out HB2.out⟩
            · by_cases h9 : m < 19
              · have h9' : (m : Int) < 19 := by omega
                obtain ⟨k, hk⟩ : ∃ k, A.size = k + 1 := ⟨A.size - 1, by omega⟩
                rw [hk, Nat.add_sub_cancel] at hAd
                have hA' : (0 : Int) < (A.size : Int) := by omega
                have hk' : (A.size : Int) - 1 = (k : Int) := by omega
                have hkA : k < A.size := by omega
                have e2 := by8_eq hkA
                clear hk
                have HAD := hid hAd
                clear hAd
                go_wp2_with fail
                refine (dig12_no _ HAD.out _).mono ?_
                rintro e' w' ⟨rfl, hw'⟩
                have hw' := hw'.symm
                subst hw'
                go_wp2_with fail
                refine (HPAD.out _).mono ?_
                rintro e w2 ⟨rfl, hb2⟩
                have HB2 := hid hb2
                clear hb2
                have u1 : ¬ 9223372036854775807 < A.size + P.size := by omega
                have u2 : ¬ 9223372036854775807 < A.size + P.size + B.size := by omega
                have c1 := HCAT.out
                go_wp2
                go_ret
                exact ⟨rfl, below_two4 HBW.out HB2.out⟩
              · have h9' : ¬ (m : Int) < 19 := by omega
                clear hA
                go_wp2_with fail
                refine (HPAD.out _).mono ?_
                rintro e w2 ⟨rfl, hb2⟩
                have HB2 := hid hb2
                clear hb2
                have u1 : ¬ 9223372036854775807 < A.size + P.size := by omega
                have u2 : ¬ 9223372036854775807 < A.size + P.size + B.size := by omega
                have c1 := HCAT.out
                go_wp2
                go_ret
                exact ⟨rfl, below_two4 HBW.out HB2.out⟩

end Go.Proofs.Qxb6601657a

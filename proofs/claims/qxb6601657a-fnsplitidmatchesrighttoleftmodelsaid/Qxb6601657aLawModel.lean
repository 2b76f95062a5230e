/-
  THE WALK of FnSplitIDMatchesRightToLeftModel (3).
-/
import Derived.Test.Qxb6601657aModel
namespace Go.Proofs.Qxb6601657a
open Go.RowKit

def Yes (w : World) (e : Ending) (w' : World) : Prop := e = .returned (.bool true) ∧ Below w.heap.size w w'

theorem below_two {w w1 w2 : World} (h : Below w.heap.size w w1) (g : Below w1.heap.size w1 w2) : Below w.heap.size w w2 :=
  h.trans (g.mono h.size)

set_option maxHeartbeats 1000000 in
theorem law3 (s : ByteArray) (w : World) (hs : s.size ≤ maxLen) : Calls Try.prog 3 #[.string s] w (Yes w) := by
  have hs' := hs
  unfold maxLen at hs'
  go_enter Try.func3, Try.ntmps3
  go_wp2_with fail
  refine (zz6_any s _ hs).mono ?_
  rintro e w1 ⟨b, rfl, hw⟩
  have hw := hw.symm
  subst hw
  cases b with
  | false =>
    go_wp2
    go_ret
    exact ⟨rfl, Below.refl _ _⟩
  | true =>
    by_cases hn : 1048576 < s.size
    · have hn' : (1048576 : Int) < (s.size : Int) := by omega
      go_wp2
      go_ret
      exact ⟨rfl, Below.refl _ _⟩
    · have hn' : ¬ (1048576 : Int) < (s.size : Int) := by omega
      have hle : s.size ≤ 1048576 := by omega
      go_wp2_with fail
      refine (zz7_any s _ hle).mono ?_
      rintro e w1 ⟨r, hr, rfl, hb⟩
      have HR := hid hr
      have HB := hid hb
      clear hr hb
      cases r with
      | none =>
        simp only [tup7]
        go_wp2_with fail
        refine (model_any s _ hle).mono ?_
        rintro e w2 ⟨r', hr', rfl, hb2⟩
        obtain rfl := HR.out.unique hr'
        have HB2 := hid hb2
        clear hb2 hr'
        simp only [tup7]
        go_wp2
        go_ret
        exact ⟨rfl, below_two HB.out HB2.out⟩
      | some p =>
        obtain ⟨st, en⟩ := p
        simp only [tup7]
        go_wp2_with fail
        refine (model_any s _ hle).mono ?_
        rintro e w2 ⟨r', hr', rfl, hb2⟩
        obtain rfl := HR.out.unique hr'
        have HB2 := hid hb2
        clear hb2 hr'
        simp only [tup7]
        go_wp2
        go_ret
        exact ⟨rfl, below_two HB.out HB2.out⟩

end Go.Proofs.Qxb6601657a

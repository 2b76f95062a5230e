/-
  THE WALK of ZZSplitID (7).
-/
import Derived.Test.Qxb6601657aSplit
namespace Go.Proofs.Qxb6601657a
open Go.RowKit

theorem results_tmp5 {fn : Func} {t u v x y : Tmp} (h : fn.results = #[.tmp t, .tmp u, .tmp v, .tmp x, .tmp y]) (tmps : Array Value) (P : Program) (w : World) :
    (results fn tmps).run P w = .ok (.tuple #[tmps.getD t undef, tmps.getD u undef, tmps.getD v undef, tmps.getD x undef, tmps.getD y undef]) w := by
  simp [results, h]

/-- The whole answer as a value. -/
def tup7 (s : ByteArray) : Option (Nat × Nat) → Value
  | none => .tuple #[.string ⟨#[]⟩, .string ⟨#[]⟩, .int .i64 0, .int .u64 0, .bool false]
  | some (st, en) => .tuple #[.string (s.extract 0 st), .string (s.extract en s.size), .int .i64 ((en : Int) - st), .int .u64 (val (by8 s) st (en - st)), .bool true]

def Splits5 (s : ByteArray) (w : World) (e : Ending) (w' : World) : Prop :=
  ∃ r, Sp (by8 s) s.size r ∧ e = .returned (tup7 s r) ∧ Below w.heap.size w w'

theorem below_zz {w w1 : World} (h : Below w.heap.size w w1) (o : Obj) (n : Nat) : Below w.heap.size w ((w1.alloc o).drewN n) := by
  have := h.alloc h.size o
  exact ⟨this.os, this.tape, this.output, this.size, this.block⟩

set_option maxHeartbeats 1000000 in
theorem zz7_any (s : ByteArray) (w : World) (hs : s.size ≤ 1048576) : Calls Try.prog 7 #[.string s] w (Splits5 s w) := by
  go_enter Try.func7, Try.ntmps7
  go_wp2_with fail
  refine (split_any s _ hs).mono ?_
  rintro e w1 ⟨r, hr, rfl, hb⟩
  have HR := hid hr
  have HB := hid hb
  clear hr hb
  cases r with
  | none =>
    simp only [tup15]
    go_wp2_with fail
    go_quiet (fail)
    go_wp2
    try simp only [Exit.inBlock, Exit.then]
    refine bodyPost_ret (results_tmp5 rfl _ _ _) rfl ?_
    exact ⟨none, HR.out, rfl, below_zz HB.out _ _⟩
  | some p =>
    obtain ⟨st, en⟩ := p
    simp only [tup15]
    go_wp2_with fail
    go_quiet (fail)
    go_wp2
    try simp only [Exit.inBlock, Exit.then]
    refine bodyPost_ret (results_tmp5 rfl _ _ _) rfl ?_
    exact ⟨_, HR.out, rfl, below_zz HB.out _ _⟩

end Go.Proofs.Qxb6601657a

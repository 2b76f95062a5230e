/-
  THE WALK of ZZOpen (17).
-/
import Derived.Test.Qxb6601649aOpenW
namespace Go.Proofs.Qxb6601649a
open Go.RowKit

/-- What ZZOpen hands back. -/
def ZP (w : World) (ok : Bool) (d o : Int) (dv : Value) (row : Option Nat) (R : World → Prop) (e : Ending) (w' : World) : Prop :=
  e = .returned (.tuple #[.bool ok, .int .i64 d, .int .u64 o, dv]) ∧ w.grownBy w' row ∧ R w'

theorem results_tmp4 {fn : Func} {t u v x : Tmp} (h : fn.results = #[.tmp t, .tmp u, .tmp v, .tmp x]) (tmps : Array Value) (P : Program) (w : World) :
    (results fn tmps).run P w = .ok (.tuple #[tmps.getD t undef, tmps.getD u undef, tmps.getD v undef, tmps.getD x undef]) w := by
  simp [results, h]

theorem box_new (w : World) (d o : Int) (dv : Value) : Box (w.alloc (.cells #[.int .i64 d, .int .u64 o, dv] 44)) w.heap.size d o dv := heap_alloc_new w _

theorem kept2_grown {w w' : World} {o : Obj} {row : Option Nat} (h : Kept2 (w.alloc o) w' w.heap.size row) (n : Nat) : w.grownBy (w'.drewN n) row := by
  refine ⟨h.os, h.tape, h.output, ?_, fun k hk hr => ?_⟩
  · have := h.size
    have e : (w.alloc o).heap.size = w.heap.size + 1 := by simp
    show w.heap.size ≤ w'.heap.size
    omega
  · show w'.heap[k]? = _
    rw [h.block k (by simp; omega) (by omega) hr]
    exact Below.heap_alloc w o k hk

theorem zp_end {w w' : World} {ok : Bool} {d o : Int} {dv : Value} {row : Option Nat} {R : World → Prop} {ob : Obj} (hk : Kept2 (w.alloc ob) w' w.heap.size row) (hR : R w') (hRd : ∀ n, R w' → R (w'.drewN n)) (n : Nat) :
    ZP w ok d o dv row R (.returned (.tuple #[.bool ok, .int .i64 d, .int .u64 o, dv])) (w'.drewN n) := ⟨rfl, kept2_grown hk n, hRd n hR⟩

theorem kept2_refl (w : World) (p : Nat) (row : Option Nat) : Kept2 w w p row := ⟨rfl, rfl, rfl, Nat.le_refl _, fun _ _ _ _ => rfl⟩

set_option maxHeartbeats 1000000 in
theorem zzOpen_no (d : Nat) (o : Int) (a : Option Addr) (m c : Nat) (f : Bool) (w : World) (hd : d = 10000) :
    Calls Try.prog 17 #[.int .i64 d, .int .u64 o, .slice a m c, .bool f] w (ZP w false d o (.slice a m c) none (fun _ => True)) := by
  have HD := hid hd
  clear hd
  go_enter Try.func17, Try.ntmps17
  go_wp2_with fail
  refine (open_no w.heap.size d o _ f _ (box_new w _ _ _) HD.out).mono ?_
  rintro e w' ⟨rfl, hw⟩
  have hb : Box w' w.heap.size d o (.slice a m c) := by rw [hw]; exact box_new w _ _ _
  have hk : Kept2 (w.alloc (.cells #[.int .i64 d, .int .u64 o, .slice a m c] 44)) w' w.heap.size none := by rw [hw]; exact kept2_refl _ _ _
  have c0 := hb.c0
  have c1 := hb.c1
  have c2 := hb.c2
  have HE := hid (fun n => zp_end (ok := false) (d := d) (o := o) (dv := .slice a m c) (R := fun _ => True) hk trivial (fun _ _ => trivial) n)
  clear hb hk hw
  go_wp2
  go_quiet (fail)
  go_wp2
  try simp only [Exit.inBlock, Exit.then]
  refine bodyPost_ret (results_tmp4 rfl _ _ _) rfl ?_
  exact HE.out _

set_option maxHeartbeats 1000000 in
theorem zzOpen_set (d : Nat) (o o' : Int) (ho' : bits BinOp.or IntKind.u64 o (IntKind.u64.wrap (2 ^ d)) = o') (a : Option Addr) (m c : Nat) (w : World) (hd : d < 64) :
    Calls Try.prog 17 #[.int .i64 d, .int .u64 o, .slice a m c, .bool true] w (ZP w true (d + 1) o' (.slice a m c) none (fun _ => True)) := by
  have HD := hid hd
  have HO := hid ho'
  clear hd ho'
  go_enter Try.func17, Try.ntmps17
  go_wp2_with fail
  refine (open_set w.heap.size d o _ _ (box_new w _ _ _) HD.out).mono ?_
  rintro e w' ⟨rfl, hb, hk, -⟩
  rw [HO.out] at hb
  have c0 := hb.c0
  have c1 := hb.c1
  have c2 := hb.c2
  have HE := hid (fun n => zp_end (ok := true) (d := (d : Int) + 1) (o := o') (dv := .slice a m c) (R := fun _ => True) hk trivial (fun _ _ => trivial) n)
  clear hb hk
  go_wp2
  go_quiet (fail)
  go_wp2
  try simp only [Exit.inBlock, Exit.then]
  refine bodyPost_ret (results_tmp4 rfl _ _ _) rfl ?_
  exact HE.out _

set_option maxHeartbeats 1000000 in
theorem zzOpen_clear (d : Nat) (o o' : Int) (ho' : bits BinOp.andNot IntKind.u64 o (IntKind.u64.wrap (2 ^ d)) = o') (a : Option Addr) (m c : Nat) (w : World) (hd : d < 64) :
    Calls Try.prog 17 #[.int .i64 d, .int .u64 o, .slice a m c, .bool false] w (ZP w true (d + 1) o' (.slice a m c) none (fun _ => True)) := by
  have HD := hid hd
  have HO := hid ho'
  clear hd ho'
  go_enter Try.func17, Try.ntmps17
  go_wp2_with fail
  refine (open_clear w.heap.size d o _ _ (box_new w _ _ _) HD.out).mono ?_
  rintro e w' ⟨rfl, hb, hk, -⟩
  rw [HO.out] at hb
  have c0 := hb.c0
  have c1 := hb.c1
  have c2 := hb.c2
  have HE := hid (fun n => zp_end (ok := true) (d := (d : Int) + 1) (o := o') (dv := .slice a m c) (R := fun _ => True) hk trivial (fun _ _ => trivial) n)
  clear hb hk
  go_wp2
  go_quiet (fail)
  go_wp2
  try simp only [Exit.inBlock, Exit.then]
  refine bodyPost_ret (results_tmp4 rfl _ _ _) rfl ?_
  exact HE.out _

/-- .. beyond the word. -/
def ZD (w : World) (B m : Nat) (d o : Int) (row : Option Nat) (ys : List Value) (e : Ending) (w' : World) : Prop :=
  ∃ a' c', ZP w true d o (.slice a' (m + 1) c') row (fun w' => w'.ownsRow B 4 1 (.slice a' (m + 1) c') (m + 1) ys) e w'

set_option maxHeartbeats 1000000 in
theorem zzOpen_deep (d : Nat) (o : Int) (a : Option Addr) (m c B : Nat) (xs : List Value) (f : Bool) (w : World) (hd : 64 ≤ d) (hd2 : d < 10000) (hm : m ≤ 10000)
    (hown : w.ownsRow B 4 1 (.slice a m c) m xs) (hb : B ≤ w.heap.size) :
    Calls Try.prog 17 #[.int .i64 d, .int .u64 o, .slice a m c, .bool f] w (ZD w B m (d + 1) o (Value.slice a m c).ownBlock (xs ++ [.bool f])) := by
  have HD := hid (And.intro hd hd2)
  clear hd hd2
  go_enter Try.func17, Try.ntmps17
  go_wp2_with fail
  refine (open_deep w.heap.size d o a m c B xs f _ (box_new w _ _ _) HD.out.1 HD.out.2 hm (hown.alloc _) (by simp; omega)).mono ?_
  rintro e w' ⟨v', rfl, hb', hk, ho⟩
  obtain ⟨a', c', rfl⟩ : ∃ a' c', v' = .slice a' (m + 1) c' := by
    rcases ho.2 with ⟨_, h⟩ | ⟨g, cap, cur, h, _⟩
    · omega
    · exact ⟨_, _, h⟩
  have c0 := hb'.c0
  have c1 := hb'.c1
  have c2 := hb'.c2
  have HE := hid (fun n => zp_end (ok := true) (d := (d : Int) + 1) (o := o) (dv := .slice a' (m + 1) c') (R := fun w' => w'.ownsRow B 4 1 (.slice a' (m + 1) c') (m + 1) (xs ++ [Value.bool f])) hk ho (fun n h => (h : (World.drewN w' n).ownsRow B 4 1 (.slice a' (m + 1) c') (m + 1) (xs ++ [Value.bool f]))) n)
  clear hb' hk ho hown
  go_wp2
  go_quiet (fail)
  go_wp2
  try simp only [Exit.inBlock, Exit.then]
  refine bodyPost_ret (results_tmp4 rfl _ _ _) rfl ?_
  exact ⟨_, _, HE.out _⟩

end Go.Proofs.Qxb6601649a

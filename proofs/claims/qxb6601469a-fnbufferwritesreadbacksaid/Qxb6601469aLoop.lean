/-
  THE STATE of the writing loop of FnBufferWritesReadBack, and what a round does to it. No walk here.
-/
import Derived.Test.Qxb6601469aBuf
namespace Go.Proofs.Qxb6601469a
open Go.RowKit

/-- After k bytes. -/
def St (w1 : World) (zs : List Int) (k : Nat) (fv lv : Value) (wr : World) : Prop :=
  ∃ Zs la lz lc, lv = .slice la lz.length lc ∧ Buf wr w1.heap.size fv Zs la lz lc ∧ zs.take k = Zs.flatten ++ lz ∧ Whole Zs ∧ Cap Zs.length k lc ∧ k = Zs.length * 32768 + lz.length ∧ lz.length ≤ lc ∧ Below w1.heap.size w1 wr

/-- After k bytes, with room for one more. -/
def Mid (w1 : World) (zs : List Int) (k : Nat) (fv : Value) (g : Nat) (lz : List Int) (lc : Nat) (wr : World) : Prop :=
  ∃ Zs, Buf wr w1.heap.size fv Zs (some ⟨g, 0, none⟩) lz lc ∧ zs.take k = Zs.flatten ++ lz ∧ Whole Zs ∧ Cap Zs.length (k + 1) lc ∧ k = Zs.length * 32768 + lz.length ∧ lz.length < lc ∧ Below w1.heap.size w1 wr

theorem St.start (w1 : World) (zs : List Int) : St w1 zs 0 (.slice none 0 0) (.slice none 0 0) w1 :=
  ⟨[], none, [], 0, rfl, ⟨[], World.ownsRow_nil _ _ _ _, (fun i hi => by simp at hi), World.ownsRow_nil _ _ _ _⟩, rfl, (fun i hi => by simp at hi), .inl ⟨rfl, rfl, rfl⟩, rfl, Nat.le_refl _, Below.refl _ _⟩

theorem Mid.own {w1 : World} {zs : List Int} {k : Nat} {fv : Value} {g : Nat} {lz : List Int} {lc : Nat} {wr : World} (h : Mid w1 zs k fv g lz lc wr) :
    wr.ownsRow w1.heap.size 5 1 (.slice (some ⟨g, 0, none⟩) lz.length lc) lz.length (bs lz) ∧ lz.length < lc ∧ Below w1.heap.size w1 wr := by
  obtain ⟨Zs, ⟨vs, _, _, h3⟩, _, _, _, _, h4, h5⟩ := h
  exact ⟨h3, h4, h5⟩

theorem Mid.app {w1 : World} {zs : List Int} {k : Nat} {fv : Value} {g : Nat} {lz : List Int} {lc : Nat} {wr w' : World} {o : Obj} (h : Mid w1 zs k fv g lz lc wr) (hk : k < zs.length)
    (ho : w'.ownsRow w1.heap.size 5 1 (.slice (some ⟨g, 0, none⟩) (lz.length + 1) lc) (lz.length + 1) (bs lz ++ [.int .u8 (zs.getD k 0)])) (hg : (wr.alloc o).grownBy w' (some g)) :
    St w1 zs (k + 1) fv (.slice (some ⟨g, 0, none⟩) (lz.length + 1) lc) w' := by
  obtain ⟨Zs, hb, h1, h2, h3, h4, h5, h6⟩ := h
  obtain ⟨vs, o1, o2, o3⟩ := hb
  have hgB := (o3.lt g rfl).1
  refine ⟨Zs, some ⟨g, 0, none⟩, lz ++ [zs.getD k 0], lc, by rw [List.length_append]; rfl, Buf.app ⟨vs, o1, o2, o3⟩ ho hg, ?_, h2, h3, by rw [List.length_append, List.length_singleton]; omega, by rw [List.length_append, List.length_singleton]; omega, ?_⟩
  · rw [take_snoc zs k hk, h1, List.append_assoc]
  · refine (h6.alloc h6.size o).grown hg ?_ (fun j hj => ?_)
    · have := h6.size
      simp; omega
    · simp at hj; omega

/-- There is room. -/
theorem St.room {w1 : World} {zs : List Int} {k : Nat} {fv : Value} {la : Option Addr} {ln lc : Nat} {wr : World} (h : St w1 zs k fv (.slice la ln lc) wr) (hne : ln ≠ lc) :
    ∃ g lz, lz.length = ln ∧ la = some ⟨g, 0, none⟩ ∧ Mid w1 zs k fv g lz lc wr := by
  obtain ⟨Zs, la', lz, lc', hv, ⟨vs, o1, o2, o3⟩, h1, h2, h3, h4, h5, h6⟩ := h
  simp only [Value.slice.injEq] at hv
  obtain ⟨rfl, rfl, rfl⟩ := hv
  rcases o3.2 with ⟨hv, _⟩ | ⟨g, cap, cur, hv, _⟩
  · simp only [Value.slice.injEq] at hv
    omega
  · simp only [Value.slice.injEq, true_and] at hv
    obtain ⟨rfl, rfl⟩ := hv
    exact ⟨g, lz, rfl, rfl, Zs, ⟨vs, o1, o2, o3⟩, h1, h2, h3.room (by omega), h4, by omega, h6⟩

theorem next_mul (t k n l m : Nat) (h4 : k = n * t + l) (c1 : l = t) (e : m = n + 1) : k = m * t + 0 := by
  rw [h4, c1, e, Nat.add_mul, Nat.one_mul, Nat.add_zero]

theorem next_len {k lc : Nat} {Zs : List (List Int)} {lz : List Int} (h4 : k = Zs.length * 32768 + lz.length) (he : lz.length = lc) (c1 : lc = 32768) : k = (Zs ++ [lz]).length * 32768 + ([] : List Int).length :=
  next_mul 32768 k Zs.length lz.length (Zs ++ [lz]).length h4 (he.trans c1) (by simp)

/-- No room: the three ways of grow. -/
theorem St.full {w1 : World} {zs : List Int} {k : Nat} {fv : Value} {la : Option Addr} {ln lc : Nat} {wr : World} (h : St w1 zs k fv (.slice la ln lc) wr) (he : ln = lc) (hz : k ≤ 1048576) :
    ∃ fa nf fc lz, fv = .slice fa nf fc ∧ lz.length = ln ∧ RdB wr la lz ∧ nf ≤ 65536 ∧ lc ≤ 32768 ∧
      ((lc = 0 ∧ ∀ g2 w', wr.heap.size ≤ g2 → w'.ownsRow wr.heap.size 5 1 (.slice (some ⟨g2, 0, none⟩) ([] : List Int).length 1024) ([] : List Int).length (bs []) → wr.grownBy w' none → Mid w1 zs k fv g2 [] 1024 w') ∨
       (0 < lc ∧ nf = 0 ∧ lc < 32768 ∧ ∀ g2 w', wr.heap.size ≤ g2 → w'.ownsRow wr.heap.size 5 1 (.slice (some ⟨g2, 0, none⟩) lz.length (2 * lc)) lz.length (bs lz) → wr.grownBy w' none → Mid w1 zs k fv g2 lz (2 * lc) w') ∨
       (0 < lc ∧ (nf = 0 → 32768 ≤ lc) ∧ w1.heap.size ≤ wr.heap.size ∧ ∃ vs, wr.ownsRow w1.heap.size 23 1 fv nf vs ∧ ∀ fv' g2 w', wr.heap.size ≤ g2 → w'.ownsRow w1.heap.size 23 1 fv' (nf + 1) (vs ++ [.slice la ln lc]) → w'.ownsRow wr.heap.size 5 1 (.slice (some ⟨g2, 0, none⟩) 0 32768) 0 [] → wr.grownBy w' fv.ownBlock → Mid w1 zs k fv' g2 [] 32768 w')) := by
  obtain ⟨Zs, la', lz, lc', hv, hB, h1, h2, h3, h4, h5, h6⟩ := h
  simp only [Value.slice.injEq] at hv
  obtain ⟨rfl, rfl, rfl⟩ := hv
  obtain ⟨fa, fc, rfl, _, hr⟩ := hB.rd
  have hl32 : lc ≤ 32768 := by unfold Cap at h3; omega
  refine ⟨fa, Zs.length, fc, lz, rfl, rfl, hr, by omega, hl32, ?_⟩
  by_cases h0 : lc = 0
  · left
    refine ⟨h0, fun g2 w' hg ho hk => ?_⟩
    subst h0
    have hz0 : lz = [] := List.eq_nil_of_length_eq_zero (by omega)
    subst hz0
    obtain ⟨c1, c2, c3⟩ := h3.a
    exact ⟨Zs, hB.ab h6.size hg ho hk, h1, h2, c3, h4, by simp, h6.grown hk h6.size (fun j hj => by cases hj)⟩
  · by_cases hb : Zs.length = 0 ∧ lc < 32768
    · right; left
      refine ⟨by omega, hb.1, hb.2, fun g2 w' hg ho hk => ?_⟩
      exact ⟨Zs, hB.ab h6.size hg ho hk, h1, h2, h3.b (by omega) hb.1 hb.2 (by omega), h4, by omega, h6.grown hk h6.size (fun j hj => by cases hj)⟩
    · right; right
      obtain ⟨vs, o1, o2, o3⟩ := hB
      refine ⟨by omega, fun h => by omega, h6.size, vs, o1, fun fv' g2 w' hg q1 q4 hk => ?_⟩
      obtain ⟨c1, c2⟩ := h3.c (by omega) (fun h => by omega) (by omega)
      refine ⟨Zs ++ [lz], Buf.c o1 (fun i hi => by obtain ⟨ai, ci, e, o, _⟩ := o2 i hi; exact ⟨ai, ci, e, o⟩) o3 h6.size hg q1 q4 hk, ?_, h2.push (by omega), ?_, ?_, by simp, ?_⟩
      · rw [h1]; simp
      · rw [List.length_append, List.length_singleton]; exact c2
      · exact next_len h4 he c1
      · exact h6.grown hk h6.size (fun j hj => (o1.lt j hj).1)

theorem Cap.zero {nf k lc : Nat} (h : Cap nf k lc) (h0 : k = 0) : nf = 0 ∧ lc = 0 := by
  unfold Cap at h
  omega

theorem Cap.ge {nf k lc : Nat} (h : Cap nf k lc) (h0 : ¬ k = 0) (hn : nf = 0) : 1024 ≤ lc := by
  unfold Cap Pow at h
  omega

theorem Cap.dbl {nf k lc m : Nat} (h : Cap nf k lc) (hn : nf = 0) (hp : Pow m) (hm : m ≤ lc) (hlt : m < k) : Pow ((2 * m : Nat) : Int) ∧ 2 * m ≤ lc := by
  unfold Cap Pow at *
  omega

theorem Cap.eq {nf k lc m : Nat} (h : Cap nf k lc) (h0 : ¬ k = 0) (hn : nf = 0) (hp : Pow m) (hm : m ≤ lc) (hge : ¬ m < k) : m = lc := by
  unfold Cap Pow at *
  omega

theorem Cap.big {nf k lc : Nat} (h : Cap nf k lc) (hn : ¬ nf = 0) : lc = 32768 := by
  unfold Cap at h
  omega

theorem zzAppendRange_nil (fa : Option Addr) (fc : Nat) (Zs : List (List Int)) (la : Option Addr) (lc : Nat) (zs : List Int) (w : World) (s e : Int)
    (hF : RdBB w fa Zs) (hL : RdB w la zs) (hlc : zs.length ≤ lc) (hs : s < e → 0 ≤ s ∧ e ≤ Zs.length * 32768 + zs.length) (hW : Whole Zs) (hl : zs.length ≤ 32768) (hn : Zs.length ≤ 65536) :
    Calls Try.prog 13 #[.slice fa Zs.length fc, .slice la zs.length lc, .slice none 0 0, .int .i64 s, .int .i64 e] w (Back (Reads w (rangeOf Zs zs [] s e))) :=
  zzAppendRange_any fa fc Zs la lc zs w none [] s e hF hL hlc ⟨0, 0, (fun h => by simp at h), (fun i hi => by simp at hi)⟩ (fun _ => rfl) hs hW hl hn (by simp)

end Go.Proofs.Qxb6601469a

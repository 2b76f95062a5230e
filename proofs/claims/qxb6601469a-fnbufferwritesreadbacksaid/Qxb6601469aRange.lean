/-
  THE WALKS of appendRange (20) and ZZAppendRange (13).
-/
import Derived.Test.Qxb6601469aText
import Derived.Test.Qxb6601469aReads
import Derived.Deep.LoopGhost
import Derived.ArgAppend
namespace Go.Proofs.Qxb6601469a
open Go.RowKit

/-- dst, appended to: it reads as L; nothing that was there in w0 has turned: it is the call's own, or it has no room to spare. -/
def Dst (w0 : World) (L : List Int) (v : Value) (w : World) : Prop :=
  Below w0.heap.size w0 w ∧ (w.ownsRow w0.heap.size 5 1 v L.length (bs L) ∨ ∃ a, v = .slice a L.length L.length ∧ (a = none → L.length = 0) ∧ RdB w a L)

theorem Dst.bel {w0 w : World} {L : List Int} {v : Value} (h : Dst w0 L v w) : Below w0.heap.size w0 w := h.1

theorem Dst.rd {w0 w : World} {L : List Int} {v : Value} (h : Dst w0 L v w) : ∃ a c, v = .slice a L.length c ∧ RdB w a L := by
  rcases h.2 with h | ⟨a, h1, _, h3⟩
  · obtain ⟨_, a, c, h1, h2, _⟩ := own_rd h
    exact ⟨a, c, h1, h2⟩
  · exact ⟨a, _, h1, h3⟩

theorem Dst.alloc {w0 w : World} {L : List Int} {v : Value} (h : Dst w0 L v w) (o : Obj) : Dst w0 L v (w.alloc o) := by
  have hb : Below w.heap.size w (w.alloc o) := (Below.refl _ _).alloc (Nat.le_refl _) _
  refine ⟨h.1.alloc h.1.size o, ?_⟩
  rcases h.2 with h | ⟨a, h1, h2, h3⟩
  · exact .inl (h.alloc o)
  · exact .inr ⟨a, h1, h2, h3.below hb⟩

theorem Dst.nil (w : World) : Dst w [] (.slice none 0 0) w := ⟨Below.refl _ _, .inl (World.ownsRow_nil _ _ _ _)⟩

theorem one_new (W : World) (z : Int) (t : TypeId) (j : Nat) (hj : j < [z].length) : (W.alloc (.cells #[.int .u8 z] t)).cell? ((⟨W.heap.size, 0, none⟩ : Addr).add j) = some (.int .u8 ([z].getD j 0)) := by
  obtain rfl : j = 0 := by simp at hj; omega
  exact cell_one_new W (.int .u8 z) t 0 _ rfl

theorem wpList_append_dst {w0 : World} (w : World) {ops : Array Oper} {rest : List Oper} {o : Oper} {a : Act} {Q : Exit → Act → World → Prop}
    (hg : o.guard = none) (s x : Operand) (hop : o.op = Op.call { callee := Callee.builtin Builtin.append, args := #[s, x], argTypes := #[23, 23] })
    (v : Value) (L : List Int) (hs : a.eval s = v) (hD : Dst w0 L v w) (ad : Addr) (m c : Nat) (nz : List Int) (hx : a.eval x = .slice (some ad) m c) (hn : nz.length = m)
    (hc : ∀ j, j < nz.length → w.cell? (ad.add j) = some (.int .u8 (nz.getD j 0))) (hm : 0 < m) (hb : L.length + m ≤ 140737488355328)
    (hK : ∀ v' w', Dst w0 (L ++ nz) v' w' → wpList Try.prog ops Q rest (a.put o.dst v') w') : wpList Try.prog ops Q (o :: rest) a w := by
  obtain ⟨i0, hi0, hz0, hz1, hz2⟩ := info_parts info5
  have hc' : ∀ j u, (bs nz)[j]? = some u → w.cell? (ad.add j) = some u := by
    intro j u hu
    have hj : j < nz.length := by have := (List.getElem?_eq_some_iff.1 hu).1; simpa [bs] using this
    rw [hc j hj, ← bs_get nz j hj]; exact hu
  have h1c : ∀ u ∈ bs nz, u.oneCell' = true := ints_oneCell _ _
  have hbel := hD.1
  have hsz := hbel.size
  rcases hD.2 with ho | ⟨ao, hv, hno, hr⟩
  · refine wpList_append_own w hg s x 23 hop w0.heap.size 5 i0 (.int .u8 0) 1 1 Try.underlying23 hi0 hz0 hz1 hz2 rfl (by decide) v _ _ hs ho ad m c (bs nz) hx (by simp [bs, hn]) hc' h1c (by unfold maxLen; omega) (by omega) hsz ?_
    intro v' w' ho' hg' _
    refine hK v' w' ⟨hbel.grown hg' hsz (fun k hk => (ho.lt k hk).1), .inl ?_⟩
    rw [List.length_append, hn, bs_append]
    exact ho'
  · subst hv
    obtain ⟨b, off, r1, r2⟩ := hr
    refine wpList_append_grows w hg s x 23 hop 5 i0 (.int .u8 0) 1 1 Try.underlying23 hi0 hz0 hz1 hz2 rfl (by decide) ao L.length L.length (bs L) hs (fun h => ⟨hno h, hno h⟩) (by simp [bs]) ?_ ad m c (bs nz) hx (by simp [bs, hn]) hc' h1c (by omega) (by unfold maxLen; omega) (by omega) ?_
    · intro b' hb' j u hu
      have hj : j < L.length := by have := (List.getElem?_eq_some_iff.1 hu).1; simpa [bs] using this
      have := r1 (by omega)
      rw [hb'] at this
      obtain rfl := Option.some.inj this
      rw [Addr.add_lit, r2 j hj, ← bs_get L j hj]; exact hu
    · intro v' w' ho' hg'
      refine hK v' w' ⟨hbel.grown hg' hsz (fun k hk => by cases hk), .inl ?_⟩
      rw [List.length_append, hn, bs_append]
      exact ownsRow_weaken ho' hsz

def Back (R : Value → World → Prop) (e : Ending) (w' : World) : Prop := ∃ v, e = .returned v ∧ R v w'

def T (Zs : List (List Int)) (zs : List Int) : List Int := Zs.flatten ++ zs

theorem flat_len (Zs : List (List Int)) (hW : Whole Zs) : Zs.flatten.length = Zs.length * 32768 := by
  induction Zs with
  | nil => rfl
  | cons z Zs ih =>
    have h0 := hW 0 (by simp)
    simp at h0
    have ih' := ih (fun i hi => by have := hW (i + 1) (by simp; omega); simpa using this)
    rw [List.flatten_cons, List.length_append, h0, ih']
    simp only [List.length_cons]
    omega

theorem flat_drop (Zs : List (List Int)) (hW : Whole Zs) : ∀ i, i ≤ Zs.length → Zs.flatten.drop (i * 32768) = (Zs.drop i).flatten := by
  intro i hi
  have hl : (Zs.take i).flatten.length = i * 32768 := by
    rw [flat_len _ (fun j hj => by
      have hj' : j < i := by simp at hj; omega
      have := hW j (by omega)
      simpa [List.getD, List.getElem?_take, hj'] using this)]
    simp; omega
  conv => lhs; rw [← List.take_append_drop i Zs, List.flatten_append]
  rw [List.drop_append_of_le_length (by omega), List.drop_of_length_le (by omega), List.nil_append]

theorem seg_block (Zs : List (List Int)) (zs : List Int) (hW : Whole Zs) (s k : Nat) (hi : s / 32768 < Zs.length) (hk : k ≤ 32768 - s % 32768) :
    ((T Zs zs).drop s).take k = ((Zs.getD (s / 32768) []).drop (s % 32768)).take k := by
  have hl := flat_len Zs hW
  have hs : s = s / 32768 * 32768 + s % 32768 := by omega
  have hw := hW _ hi
  have e1 : Zs.drop (s / 32768) = Zs.getD (s / 32768) [] :: Zs.drop (s / 32768 + 1) := by
    rw [List.drop_eq_getElem_cons hi]; simp [List.getD, hi]
  unfold T
  rw [List.drop_append_of_le_length (by omega)]
  conv => lhs; rw [hs]
  rw [← List.drop_drop, flat_drop Zs hW _ (by omega), e1, List.flatten_cons, List.drop_append_of_le_length (by omega), List.append_assoc, List.take_append_of_le_length (by rw [List.length_drop]; omega)]

theorem seg_last (Zs : List (List Int)) (zs : List Int) (hW : Whole Zs) (hl : zs.length ≤ 32768) (s k : Nat) (hi : ¬ s / 32768 < Zs.length) (hs : s < Zs.length * 32768 + zs.length) :
    ((T Zs zs).drop s).take k = (zs.drop (s % 32768)).take k := by
  have hl := flat_len Zs hW
  unfold T
  have e : s % 32768 = s - Zs.flatten.length := by omega
  rw [List.drop_append, List.drop_of_length_le (by omega), List.nil_append, e]

theorem seg_next (t : List Int) (s0 s k : Nat) (h : s0 ≤ s) : (t.drop s0).take (s + k - s0) = (t.drop s0).take (s - s0) ++ (t.drop s).take k := by
  have e : s + k - s0 = (s - s0) + k := by omega
  rw [e, List.take_add, List.drop_drop]
  congr 3
  omega

/-- A piece of a slice: its cells. -/
theorem piece {w : World} {b off : Nat} {zs : List Int} (h : ∀ i, i < zs.length → w.cell? ⟨b, off + i, none⟩ = some (.int .u8 (zs.getD i 0))) (f k : Nat) (hfk : f + k ≤ zs.length) :
    ((zs.drop f).take k).length = k ∧ ∀ j, j < ((zs.drop f).take k).length → w.cell? ⟨b, off + f + j, none⟩ = some (.int .u8 (((zs.drop f).take k).getD j 0)) := by
  have hl : ((zs.drop f).take k).length = k := by simp; omega
  refine ⟨hl, fun j hj => ?_⟩
  rw [hl] at hj
  rw [Nat.add_assoc, h (f + j) (by omega)]
  congr 2
  simp [List.getD, hj]

set_option maxHeartbeats 1600000 in
theorem appendRange_go (p : Nat) (fa : Option Addr) (fc : Nat) (Zs : List (List Int)) (la : Option Addr) (lc : Nat) (zs : List Int) (w : World) (dv : Value) (ds : List Int) (s0 e0 : Nat)
    (hc0 : w.cell? ⟨p, 0, none⟩ = some (.slice fa Zs.length fc)) (hc1 : w.cell? ⟨p, 1, none⟩ = some (.slice la zs.length lc)) (hF : RdBB w fa Zs) (hL : RdB w la zs)
    (hlc : zs.length ≤ lc) (hd : Dst w ds dv w) (hs : s0 < e0) (he : e0 ≤ Zs.length * 32768 + zs.length) (hW : Whole Zs) (hl : zs.length ≤ 32768)
    (hn : Zs.length ≤ 65536) (hdn : ds.length ≤ 1099511627776) :
    Calls Try.prog 20 #[.pointer (some ⟨p, 0, none⟩), dv, .int .i64 s0, .int .i64 e0] w (Back (Dst w (ds ++ ((T Zs zs).drop s0).take (e0 - s0)))) := by
  have hp : p < w.heap.size := World.block_lt_of_cell? _ _ hc0
  go_enter Try.func20, Try.ntmps20
  go_wp2
  go_loopg [1, 2] (e0 - s0) (fun g v i wr => ∃ s : Nat, g = e0 - s ∧ s0 ≤ s ∧ s ≤ e0 ∧ i = .int .i64 s ∧ Dst w (ds ++ ((T Zs zs).drop s0).take (s - s0)) v wr)
  case atStart => exact ⟨s0, rfl, Nat.le_refl _, by omega, rfl, by simpa using hd⟩
  case round =>
    obtain ⟨s, hg, hs1, hs2, rfl, hR⟩ := hrel
    have HG := hid hg
    clear hg hd
    by_cases hlt : s < e0
    · have hb := hR.bel
      have d0 := (hb.cell (p := ⟨p, 0, none⟩) hp).trans hc0
      have d1 := (hb.cell (p := ⟨p, 1, none⟩) hp).trans hc1
      obtain ⟨fb, fo, f1, f2⟩ := hF.below hb
      obtain ⟨lb, lo, l1, l2⟩ := hL.below hb
      have hcl : (ds ++ ((T Zs zs).drop s0).take (s - s0)).length ≤ 1099511627776 + 2147516416 := by
        rw [List.length_append, List.length_take]; omega
      have hnx : Hid (∀ k nz, ((T Zs zs).drop s).take k = nz → ds ++ ((T Zs zs).drop s0).take (s + k - s0) = (ds ++ ((T Zs zs).drop s0).take (s - s0)) ++ nz) :=
        hid (fun k nz h => by rw [seg_next _ _ _ _ hs1, h, List.append_assoc])
      by_cases hi : s / 32768 < Zs.length
      · obtain rfl := f1 (by omega)
        obtain ⟨ai, ci, hcc, q1, q2, q3, bb, bo, b1, b2⟩ := f2 _ hi
        have hwh := hW _ hi
        have hsg := fun k hk => hid (seg_block Zs zs hW s k hi hk)
        generalize Zs.getD (s / 32768) [] = bk at *
        obtain rfl := b1 (by omega)
        rw [hwh] at hcc q2
        have HW := hid hwh
        generalize ds ++ ((T Zs zs).drop s0).take (s - s0) = cur at *
        clear hwh f2 l2 hb
        by_cases hk : e0 - s ≤ 32768 - s % 32768
        · have hk' : (e0 : Int) - (s : Int) ≤ 32768 - (s : Int) % 32768 := by omega
          obtain ⟨pl, pc⟩ := piece b2 (s % 32768) (e0 - s) (by rw [HW.out]; omega)
          have hsg' := hsg _ hk
          generalize (bk.drop (s % 32768)).take (e0 - s) = nz at *
          have HP := hid pl
          have HC := hid pc
          clear pl pc hsg b2
          go_wp2_with (at_builtin; refine wpList_append_dst _ rfl _ _ rfl _ _ rfl hR _ _ _ nz rfl ?_ ?_ ?_ ?_ ?_)
          · exact HP.out
          · exact HC.out
          · omega
          · omega
          · intro v' w' hD
            have hD' : Dst w (ds ++ ((T Zs zs).drop s0).take (s + (e0 - s) - s0)) v' w' := by
              rw [hnx.out _ _ hsg'.out]; exact hD
            clear hD hR hnx HC HP hsg' d0 d1
            go_wp2
            go_roundg (e0 - (s + (e0 - s)))
            case measure => have := HG.out; omega
            case rel => exact ⟨s + (e0 - s), rfl, by omega, by omega, by go_num, hD'⟩
        · have hk' : 32768 - (s : Int) % 32768 < (e0 : Int) - (s : Int) := by omega
          obtain ⟨pl, pc⟩ := piece b2 (s % 32768) (32768 - s % 32768) (by rw [HW.out]; omega)
          have hsg' := hsg _ (Nat.le_refl (32768 - s % 32768))
          generalize (bk.drop (s % 32768)).take (32768 - s % 32768) = nz at *
          have HP := hid pl
          have HC := hid pc
          clear pl pc hsg b2
          go_wp2_with (at_builtin; refine wpList_append_dst _ rfl _ _ rfl _ _ rfl hR _ _ _ nz rfl ?_ ?_ ?_ ?_ ?_)
          · exact HP.out
          · exact HC.out
          · omega
          · omega
          · intro v' w' hD
            have hD' : Dst w (ds ++ ((T Zs zs).drop s0).take (s + (32768 - s % 32768) - s0)) v' w' := by
              rw [hnx.out _ _ hsg'.out]; exact hD
            clear hD hR hnx HC HP hsg' d0 d1
            go_wp2
            go_roundg (e0 - (s + (32768 - s % 32768)))
            case measure => have := HG.out; omega
            case rel => exact ⟨s + (32768 - s % 32768), rfl, by omega, by omega, by go_num, hD'⟩
      · obtain rfl := l1 (by omega)
        have hsg := hid (seg_last Zs zs hW hl s (e0 - s) hi (by omega))
        obtain ⟨pl, pc⟩ := piece l2 (s % 32768) (e0 - s) (by omega)
        generalize (zs.drop (s % 32768)).take (e0 - s) = nz at *
        generalize ds ++ ((T Zs zs).drop s0).take (s - s0) = cur at *
        have HP := hid pl
        have HC := hid pc
        have hk' : (e0 : Int) - (s : Int) ≤ (zs.length : Int) - (s : Int) % 32768 := by omega
        clear pl pc l2 f2 hb
        go_wp2_with (at_builtin; refine wpList_append_dst _ rfl _ _ rfl _ _ rfl hR _ _ _ nz rfl ?_ ?_ ?_ ?_ ?_)
        · exact HP.out
        · exact HC.out
        · omega
        · omega
        · intro v' w' hD
          have hD' : Dst w (ds ++ ((T Zs zs).drop s0).take (s + (e0 - s) - s0)) v' w' := by
            rw [hnx.out _ _ hsg.out]; exact hD
          clear hD hR hnx HC HP hsg d0 d1
          go_wp2
          go_roundg (e0 - (s + (e0 - s)))
          case measure => have := HG.out; omega
          case rel => exact ⟨s + (e0 - s), rfl, by omega, by omega, by go_num, hD'⟩
    · obtain rfl : s = e0 := by omega
      go_wp2
      go_ret
      exact ⟨_, rfl, hR⟩

set_option maxHeartbeats 400000 in
theorem appendRange_none (p : Nat) (dv : Value) (s e : Int) (w : World) (h : e ≤ s) :
    Calls Try.prog 20 #[.pointer (some ⟨p, 0, none⟩), dv, .int .i64 s, .int .i64 e] w fun e w' => e = .returned dv ∧ w' = w := by
  have h' : ¬ s < e := by omega
  go_enter Try.func20, Try.ntmps20
  go_wp2
  refine wp_loop_rounds 1 ?_
  rw [rounds_succ]
  go_wp2
  go_ret
  exact ⟨rfl, rfl⟩

/-- What appendRange is to give. -/
def rangeOf (Zs : List (List Int)) (zs ds : List Int) (s e : Int) : List Int := if s < e then ds ++ ((T Zs zs).drop s.toNat).take (e.toNat - s.toNat) else ds

/-- A slice that reads as L, and nothing that was there has turned. -/
def Reads (w : World) (L : List Int) (v : Value) (w' : World) : Prop := ∃ a c, v = .slice a L.length c ∧ RdB w' a L ∧ Below w.heap.size w w'

theorem zzAppendRange_any (fa : Option Addr) (fc : Nat) (Zs : List (List Int)) (la : Option Addr) (lc : Nat) (zs : List Int) (w : World) (da : Option Addr) (ds : List Int) (s e : Int)
    (hF : RdBB w fa Zs) (hL : RdB w la zs) (hlc : zs.length ≤ lc) (hd : RdB w da ds) (hdn : da = none → ds.length = 0) (hs : s < e → 0 ≤ s ∧ e ≤ Zs.length * 32768 + zs.length) (hW : Whole Zs) (hl : zs.length ≤ 32768)
    (hn : Zs.length ≤ 65536) (hdb : ds.length ≤ 1099511627776) :
    Calls Try.prog 13 #[.slice fa Zs.length fc, .slice la zs.length lc, .slice da ds.length ds.length, .int .i64 s, .int .i64 e] w (Back (Reads w (rangeOf Zs zs ds s e))) := by
  have hb1 : Below w.heap.size w (w.alloc (Obj.cells #[Value.slice fa Zs.length fc, Value.slice la zs.length lc] 40)) := (Below.refl _ _).alloc (Nat.le_refl _) _
  have hsz : (w.alloc (Obj.cells #[Value.slice fa Zs.length fc, Value.slice la zs.length lc] 40)).heap.size = w.heap.size + 1 := by simp
  by_cases h : s < e
  · obtain ⟨h0, h1⟩ := hs h
    obtain ⟨s0, rfl⟩ := Int.eq_ofNat_of_zero_le h0
    obtain ⟨e0, rfl⟩ := Int.eq_ofNat_of_zero_le (show 0 ≤ e by omega)
    have hR : rangeOf Zs zs ds s0 e0 = ds ++ ((T Zs zs).drop s0).take (e0 - s0) := by simp [rangeOf, h]
    rw [hR]
    have HR := hid hR
    clear hR hs
    go_enter Try.func13, Try.ntmps13
    go_wp2_with fail
    refine (appendRange_go w.heap.size fa fc Zs la lc zs _ _ ds s0 e0 ?_ ?_ (hF.below hb1) (hL.below hb1) hlc ?_ (by omega) (by omega) hW hl hn hdb).mono ?_
    · simp
    · simp
    · exact ⟨Below.refl _ _, .inr ⟨da, rfl, hdn, hd.below hb1⟩⟩
    · rintro e w' ⟨v, rfl, hD⟩
      obtain ⟨a, c, hv, hr⟩ := hD.rd
      have hb2 := hb1.trans (hD.bel.mono (by omega))
      have HV := hid hv
      clear hD hv
      go_wp2
      go_ret
      exact ⟨_, rfl, a, c, HV.out, hr, hb2⟩
  · have hR : rangeOf Zs zs ds s e = ds := by simp [rangeOf, h]
    rw [hR]
    clear hR hs
    go_enter Try.func13, Try.ntmps13
    go_wp2_with fail
    refine (appendRange_none w.heap.size _ s e _ (by omega)).mono ?_
    rintro e w' ⟨rfl, rfl⟩
    go_wp2
    go_ret
    exact ⟨_, rfl, da, _, rfl, hd.below hb1, hb1⟩

end Go.Proofs.Qxb6601469a

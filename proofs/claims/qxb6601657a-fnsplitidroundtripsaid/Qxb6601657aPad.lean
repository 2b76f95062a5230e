/-
  THE WALK of zzB1Pad (13).
-/
import Derived.Test.Qxb6601657aSmall
import Derived.Laws.BytesArg
namespace Go.Proofs.Qxb6601657a
open Go.RowKit

/-- The cells of a list of bytes. -/
def bs (zs : List Int) : List Value := zs.map (Value.int .u8)
theorem bs_get (zs : List Int) (i : Nat) (h : i < zs.length) : (bs zs)[i]? = some (.int .u8 (zs.getD i 0)) := by
  simp [bs, List.getD, h]
theorem zeros_made (n : Nat) : (madeCells #[Value.int .u8 0] n).toList = bs (List.replicate n 0) := by
  rw [toList_madeCells_one]
  simp [bs]
theorem grownBy_below {w w' : World} (h : w.grownBy w' none) : Below w.heap.size w w' :=
  ⟨h.os, h.tape, h.output, h.size, fun k hk => h.block k hk (by simp)⟩

/-- m bytes from st on. -/
def lst (f : Nat → Int) (st m : Nat) : List Int := (List.range m).map (fun i => f (st + i))
theorem lst_length (f : Nat → Int) (st m : Nat) : (lst f st m).length = m := by simp [lst]
theorem lst_get (f : Nat → Int) (st m i : Nat) (h : i < m) : (lst f st m).getD i 0 = f (st + i) := by simp [lst, List.getD, h]

/-- What lies in the buffer when the bytes from q on are written. -/
def part (f : Nat → Int) (st m q : Nat) : List Int := List.replicate q 0 ++ (lst f st m).drop q
theorem part_length (f : Nat → Int) (st m q : Nat) (h : q ≤ m) : (part f st m q).length = m := by simp [part, lst_length]; omega
theorem part_full (f : Nat → Int) (st m : Nat) : part f st m m = List.replicate m 0 := by
  simp [part, lst_length]
theorem part_zero (f : Nat → Int) (st m : Nat) : part f st m 0 = lst f st m := by simp [part]
theorem part_step (f : Nat → Int) (st m p : Nat) (h : p < m) : (bs (part f st m (p + 1))).set p (.int .u8 (f (st + p))) = bs (part f st m p) := by
  have e : (lst f st m).drop p = f (st + p) :: (lst f st m).drop (p + 1) := by
    rw [List.drop_eq_getElem_cons (by rw [lst_length]; exact h)]
    simp [lst]
  simp only [part, bs, List.map_append]
  rw [e, List.replicate_succ']
  simp only [List.map_append, List.append_assoc]
  rw [List.set_append_right _ _ (by simp)]
  simp

theorem info5 : (Try.prog.info? 5).map (fun i => (i.zero, i.size, i.bytes)) = some (some (.int .u8 0), 1, 1) := by kernel_rfl

/-- What zzB1Pad answers. -/
def Padded (f : Nat → Int) (st m : Nat) (w : World) (e : Ending) (w' : World) : Prop :=
  e = .returned (.string (strOfNums (lst f st m))) ∧ Below w.heap.size w w'

/-- One digit less. -/
theorem dig_back {f : Nat → Int} {st m p : Nat} (hd : Digs f st (st + m)) (hp : p < m) (hm : m ≤ 19) :
    ∃ d v : Int, val f st p = v ∧ f (st + p) = 48 + d ∧ val f st (p + 1) = v * 10 + d ∧ 0 ≤ d ∧ d ≤ 9 ∧ 0 ≤ v ∧ v * 10 + d < 18446744073709551616 := by
  have hz := dgt_true (hd (st + p) (by omega) (by omega))
  have b1 := val_bd (f := f) (lo := st) p (fun k x y => hd k x (by omega))
  have b2 := val_bd (f := f) (lo := st) (p + 1) (fun k x y => hd k x (by omega))
  have b3 := pow_le_top (m := p + 1) (by omega)
  have e3 : val f st (p + 1) = val f st p * 10 + (f (st + p) - 48) := rfl
  refine ⟨f (st + p) - 48, _, rfl, by omega, e3, by omega, by omega, b1.1, ?_⟩
  rw [← e3]
  omega

set_option maxHeartbeats 1000000 in
theorem pad_any (f : Nat → Int) (st m : Nat) (w : World) (h1 : 1 ≤ m) (h19 : m ≤ 19) (hd : Digs f st (st + m)) :
    Calls Try.prog 13 #[.int .u64 (val f st m), .int .i64 m] w (Padded f st m w) := by
  obtain ⟨i0, hi, hz0, hz1, hz2⟩ := info_parts info5
  have HD := hid hd
  clear hd
  have t1 : ¬ (m : Int) < 1 := by omega
  have t2 : ¬ (19 : Int) < (m : Int) := by omega
  go_enter Try.func13, Try.ntmps13
  go_wp2_with (at_make; refine wpList_make_full _ rfl _ _ 34 rfl w.heap.size 5 i0 (.int .u8 0) 1 Try.underlying34 hi hz0 hz1 _ _ _ _ m rfl rfl rfl rfl (by rw [hz2]; omega) (by unfold maxLen; omega) (Nat.le_refl _) ?_)
  intro w1 hown hgrow
  rw [zeros_made, ← part_full f st m] at hown
  have hbel := grownBy_below hgrow
  clear hgrow hi hz0 hz1 hz2
  go_wp2
  go_loopg [0, 6] m (fun g n k wr => ∃ q : Nat, g = q ∧ q ≤ m ∧ n = .int .u64 (val f st q) ∧ k = .int .i64 ((q : Int) - 1) ∧ wr.ownsRow w.heap.size 5 1 (.slice (some ⟨w.heap.size, 0, none⟩) m m) m (bs (part f st m q)) ∧ Below w.heap.size w wr)
  case atStart => exact ⟨m, rfl, Nat.le_refl _, rfl, rfl, hown, hbel⟩
  case round =>
    obtain ⟨q, hg, hq, rfl, rfl, hown', hbel'⟩ := hrel
    clear hown hbel
    have HG := hid hg
    clear hg
    cases q with
    | zero =>
      have hcv := run_convert_bytes_arg (P := Try.prog) wr 34 5 Try.underlying34 Try.underlying5 w.heap.size 0 m m (lst f st m) (lst_length _ _ _) (fun i hi => by
        rw [Nat.zero_add, hown'.cellAt i (by omega), bs_get _ _ (by rw [part_length _ _ _ _ (by omega)]; exact hi), part_zero]) 9 Try.underlying9
      have HB := hid hbel'
      clear hown' hbel'
      go_wp2
      go_ret
      exact ⟨rfl, HB.out⟩
    | succ p =>
      obtain ⟨d, v, hv, hfd, hvv, d0, d1, v0, v1⟩ := dig_back HD.out (show p < m by omega) h19
      have hcy : wr.cell? ⟨w.heap.size, p, none⟩ = some (.int .u8 ((part f st m (p + 1)).getD p 0)) := by
        rw [hown'.cellAt p (by omega), bs_get _ _ (by rw [part_length _ _ _ _ (by omega)]; omega)]
      have hfy := hown'.frozenAt p
      have hst := (hown'.stored p (.int .u8 (f (st + p)))).1
      rw [part_step f st m p (by omega), hfd] at hst
      have H := hid hst
      have HV := hid hv
      have HB := hid hbel'
      rw [hvv]
      clear hst hown' hbel' hv hvv hfd
      go_wp2
      have e1 : d % 10 = d := by omega
      have e2 : (v * 10 + d) / 10 = v := by omega
      rw [e1, e2]
      go_roundg p
      case measure => have := HG.out; omega
      case rel => exact ⟨p, rfl, by omega, by rw [HV.out], rfl, H.out, HB.out.setCell (Nat.le_refl _) _⟩

end Go.Proofs.Qxb6601657a

/-
  THE WALKS of the functions that only read: zzBytes (7, 16, 19), sizeOK (8), blocksOK (9), sameBytes (14), isFirstSize (17).
-/
import Derived.Test.Qxb6601469aRows
import Derived.Test.Qxb6601469aBase
import Derived.WalkLawsBesides
import Derived.BigQuiet
namespace Go.Proofs.Qxb6601469a
open Go.RowKit

/-- A function that only reads, and answers a bool: what its 'true' means. -/
def Says (w : World) (p : Prop) (e : Ending) (w' : World) : Prop := ∃ r : Bool, e = .returned (.bool r) ∧ (r = true ↔ p) ∧ w' = w

/-- .. what its 'true' brings. -/
def Brings (w : World) (p : Prop) (e : Ending) (w' : World) : Prop := ∃ r : Bool, e = .returned (.bool r) ∧ (r = true → p) ∧ w' = w

theorem Brings.no (w : World) (p : Prop) : Brings w p (.returned (.bool false)) w := ⟨_, rfl, (fun h => by cases h), rfl⟩
theorem Brings.yes (w : World) {p : Prop} (h : p) : Brings w p (.returned (.bool true)) w := ⟨_, rfl, fun _ => h, rfl⟩

/-- All blocks are whole. -/
def Whole (Zs : List (List Int)) : Prop := ∀ i, i < Zs.length → (Zs.getD i []).length = 32768
def SizeP (n n1 n2 : Nat) : Prop := n ≤ 65536 ∧ n1 ≤ 1048576 ∧ n2 ≤ 1048576

set_option maxHeartbeats 400000 in
theorem blocksOK_any (a : Option Addr) (n c : Nat) (Zs : List (List Int)) (w : World) (hr : RdBB w a Zs) (hz : Zs.length = n) (hb : n ≤ 65537) :
    Calls Try.prog 9 #[.slice a n c] w (Says w (Whole Zs)) := by
  obtain ⟨b, off, h1, h2⟩ := hr
  go_enter Try.func9, Try.ntmps9
  go_wp2
  go_loop [3] (fun i => ∃ k : Nat, k ≤ n ∧ i = .int .i64 k ∧ ∀ i, i < k → (Zs.getD i []).length = 32768) (fun i => n - (intOf i).toNat)
  case atStart => exact ⟨0, Nat.zero_le _, rfl, fun i hi => by omega⟩
  case round =>
    obtain ⟨k, hk, rfl, hall⟩ := hrel
    have HA := hid hall
    clear hall
    by_cases hlt : k < n
    · obtain rfl := h1 (by omega)
      obtain ⟨ai, ci, hc0, q1, q2, q3, hrk⟩ := h2 k (by omega)
      obtain ⟨L, hL⟩ : ∃ L, (Zs.getD k []).length = L := ⟨_, rfl⟩
      rw [hL] at hc0 q2
      have HL := hid hL
      clear hL hrk h2
      by_cases hne : L = 32768
      · have hne' : ((L : Int) != 32768) = false := by simp; omega
        have HN := hid hne
        clear hne
        go_wp2
        go_round
        case rel =>
          refine ⟨k + 1, by omega, by go_num, fun i hi => ?_⟩
          by_cases h : i < k
          · exact HA.out i h
          · obtain rfl : i = k := by omega
            rw [HL.out]; exact HN.out
        case measure => simp [intOf]; omega
      · have hne' : ((L : Int) != 32768) = true := by simp; omega
        have HN := hid hne
        clear hne
        go_wp2
        go_ret
        exact ⟨false, rfl, ⟨(fun h => by cases h), fun h => absurd (h k (by omega)) (by rw [HL.out]; exact HN.out)⟩, rfl⟩
    · go_wp2
      go_ret
      exact ⟨true, rfl, ⟨fun _ i hi => HA.out i (by omega), fun _ => rfl⟩, rfl⟩

set_option maxHeartbeats 400000 in
theorem zz19_any (a : Option Addr) (n c : Nat) (s t : Int) (w : World) (hn : n ≤ maxLen) : Calls Try.prog 19 #[.slice a n c, .int .i64 s, .int .i64 t] w (Brings w True) := by
  unfold maxLen at hn
  go_enter Try.func19, Try.ntmps19
  go_wp2
  all_goals
    go_ret
    exact ⟨_, rfl, fun _ => trivial, rfl⟩

set_option maxHeartbeats 1000000 in
theorem sizeOK_any (a : Option Addr) (n c : Nat) (Zs : List (List Int)) (w : World) (hr : RdBB w a Zs) (hz : Zs.length = n) (hm : n ≤ maxLen)
    (a1 : Option Addr) (n1 c1 : Nat) (a2 : Option Addr) (n2 c2 : Nat) (hm1 : n1 ≤ maxLen) (hm2 : n2 ≤ maxLen) :
    Calls Try.prog 8 #[.slice a n c, .slice a1 n1 c1, .slice a2 n2 c2] w (Brings w (SizeP n n1 n2)) := by
  obtain ⟨b, off, h1, h2⟩ := hr
  unfold maxLen at hm hm1 hm2
  by_cases g1 : n ≤ 65536
  · by_cases g2 : n1 ≤ 1048576
    · by_cases g3 : n2 ≤ 1048576
      · go_enter Try.func8, Try.ntmps8
        go_wp2
        · go_ret
          exact Brings.no _ _
        · go_loop [7, 8] (fun t i => ∃ k : Nat, k ≤ n ∧ i = .int .i64 k ∧ ∃ t0 : Int, t = .int .i64 t0 ∧ 0 ≤ t0 ∧ t0 ≤ 1048576) (fun _ i => n - (intOf i).toNat)
          case atStart => exact ⟨0, Nat.zero_le _, rfl, _, rfl, by omega, by omega⟩
          case round =>
            obtain ⟨k, hk, rfl, t0, rfl, ht1, ht2⟩ := hrel
            by_cases hlt : k < n
            · obtain rfl := h1 (by omega)
              obtain ⟨ai, ci, hc0, q1, q2, q3, hrk⟩ := h2 k (by omega)
              unfold maxLen at q3
              generalize (Zs.getD k []).length = L at hc0 q2
              clear hrk h2
              go_wp2
              · go_ret
                exact Brings.no _ _
              · go_ret
                exact Brings.no _ _
              · go_round
                case rel => exact ⟨k + 1, by omega, by go_num, _, rfl, by omega, by omega⟩
                case measure => simp [intOf]; omega
            · go_wp2
              go_ret
              exact Brings.yes _ ⟨g1, g2, g3⟩
      · go_enter Try.func8, Try.ntmps8
        go_wp2
        go_ret
        exact Brings.no _ _
    · go_enter Try.func8, Try.ntmps8
      go_wp2
      go_ret
      exact Brings.no _ _
  · go_enter Try.func8, Try.ntmps8
    go_wp2
    go_ret
    exact Brings.no _ _

set_option maxHeartbeats 1000000 in
theorem zz7_any (a : Option Addr) (n c : Nat) (Zs : List (List Int)) (w : World) (hr : RdBB w a Zs) (hz : Zs.length = n) (hm : n ≤ maxLen)
    (a1 : Option Addr) (n1 c1 : Nat) (a2 : Option Addr) (n2 c2 : Nat) (hm1 : n1 ≤ maxLen) (hm2 : n2 ≤ maxLen) (s t : Int) :
    Calls Try.prog 7 #[.slice a n c, .slice a1 n1 c1, .slice a2 n2 c2, .int .i64 s, .int .i64 t] w (Brings w True) := by
  obtain ⟨b, off, h1, h2⟩ := hr
  unfold maxLen at hm hm1 hm2
  by_cases g1 : n ≤ 1048576
  · go_enter Try.func7, Try.ntmps7
    go_wp2
    go_loop [11, 12] (fun t i => ∃ k : Nat, k ≤ n ∧ i = .int .i64 k ∧ ∃ t0 : Int, t = .int .i64 t0 ∧ 0 ≤ t0 ∧ t0 ≤ 1048576) (fun _ i => n - (intOf i).toNat)
    case atStart => exact ⟨0, Nat.zero_le _, rfl, _, rfl, by omega, by omega⟩
    case round =>
      obtain ⟨k, hk, rfl, t0, rfl, ht1, ht2⟩ := hrel
      by_cases hlt : k < n
      · obtain rfl := h1 (by omega)
        obtain ⟨ai, ci, hc0, q1, q2, q3, hrk⟩ := h2 k (by omega)
        unfold maxLen at q3
        generalize (Zs.getD k []).length = L at hc0 q2
        clear hrk h2
        go_wp2
        · go_ret
          exact Brings.no _ _
        · go_ret
          exact Brings.no _ _
        · go_round
          case rel => exact ⟨k + 1, by omega, by go_num, _, rfl, by omega, by omega⟩
          case measure => simp [intOf]; omega
      · clear h2
        go_wp2
        all_goals
          go_ret
          first | exact Brings.no _ _ | exact Brings.yes _ trivial
  · go_enter Try.func7, Try.ntmps7
    go_wp2
    go_ret
    exact Brings.no _ _

set_option maxHeartbeats 1000000 in
theorem zz16_any (a : Option Addr) (n c : Nat) (Zs : List (List Int)) (w : World) (hr : RdBB w a Zs) (hz : Zs.length = n) (hm : n ≤ maxLen)
    (a1 : Option Addr) (n1 c1 : Nat) (hm1 : n1 ≤ maxLen) :
    Calls Try.prog 16 #[.slice a n c, .slice a1 n1 c1] w (Brings w True) := by
  obtain ⟨b, off, h1, h2⟩ := hr
  unfold maxLen at hm hm1
  by_cases g1 : n ≤ 1048576
  · go_enter Try.func16, Try.ntmps16
    go_wp2
    go_loop [5, 6] (fun t i => ∃ k : Nat, k ≤ n ∧ i = .int .i64 k ∧ ∃ t0 : Int, t = .int .i64 t0 ∧ 0 ≤ t0 ∧ t0 ≤ 1048576) (fun _ i => n - (intOf i).toNat)
    case atStart => exact ⟨0, Nat.zero_le _, rfl, _, rfl, by omega, by omega⟩
    case round =>
      obtain ⟨k, hk, rfl, t0, rfl, ht1, ht2⟩ := hrel
      by_cases hlt : k < n
      · obtain rfl := h1 (by omega)
        obtain ⟨ai, ci, hc0, q1, q2, q3, hrk⟩ := h2 k (by omega)
        unfold maxLen at q3
        generalize (Zs.getD k []).length = L at hc0 q2
        clear hrk h2
        go_wp2
        · go_ret
          exact Brings.no _ _
        · go_ret
          exact Brings.no _ _
        · go_round
          case rel => exact ⟨k + 1, by omega, by go_num, _, rfl, by omega, by omega⟩
          case measure => simp [intOf]; omega
      · clear h2
        go_wp2
        all_goals
          go_ret
          first | exact Brings.no _ _ | exact Brings.yes _ trivial
  · go_enter Try.func16, Try.ntmps16
    go_wp2
    go_ret
    exact Brings.no _ _

/-- Two slices that read as the same bytes: sameBytes says yes. -/
def Yes (w : World) (e : Ending) (w' : World) : Prop := e = .returned (.bool true) ∧ Below w.heap.size w w'

set_option maxHeartbeats 1000000 in
theorem sameBytes_yes (a1 a2 : Option Addr) (n c1 c2 : Nat) (zs : List Int) (w : World) (hr1 : RdB w a1 zs) (hr2 : RdB w a2 zs) (hz : zs.length = n) (hb : n ≤ 140737488355328) :
    Calls Try.prog 14 #[.slice a1 n c1, .slice a2 n c2] w (Yes w) := by
  obtain ⟨b1, o1, g1, g2⟩ := hr1
  obtain ⟨b2, o2, k1, k2⟩ := hr2
  have hnn : ((n : Int) != (n : Int)) = false := by simp
  go_enter Try.func14, Try.ntmps14
  go_wp2
  go_loopw [5] (fun i wr => ∃ k : Nat, k ≤ n ∧ i = .int .i64 k ∧ ∃ d, wr = w.drewN d) (fun i _ => n - (intOf i).toNat)
  case atStart => exact ⟨0, Nat.zero_le _, rfl, 0, rfl⟩
  case round =>
    obtain ⟨k, hk, rfl, d, rfl⟩ := hrel
    by_cases hlt : k < n
    · obtain rfl := g1 (by omega)
      obtain rfl := k1 (by omega)
      have e1 := g2 k (by omega)
      have e2 := k2 k (by omega)
      generalize zs.getD k 0 = z at e1 e2
      clear g2 k2
      have hlt' : (k : Int) < (n : Int) := by omega
      go_wp2
      go_quiet (fail)
      go_wp2
      go_roundw
      case rel => exact ⟨k + 1, by omega, by go_num, _, rfl⟩
      case measure => simp [intOf]; omega
    · go_wp2
      go_ret
      exact ⟨rfl, below_drewN (Below.refl _ _) _⟩

def FirstSize (n : Nat) : Prop := n = 0 ∨ n = 1024 ∨ n = 2048 ∨ n = 4096 ∨ n = 8192 ∨ n = 16384 ∨ n = 32768

def Pow (c : Int) : Prop := c = 1024 ∨ c = 2048 ∨ c = 4096 ∨ c = 8192 ∨ c = 16384 ∨ c = 32768 ∨ c = 65536

theorem Pow.bd {c : Int} (h : Pow c) : 1024 ≤ c ∧ c ≤ 65536 := by unfold Pow at h; omega
theorem Pow.dbl {c : Int} (h : Pow c) (hc : c ≤ 32768) : Pow (c * 2) := by unfold Pow at h ⊢; omega
theorem Pow.first {c : Int} {n : Nat} (h : Pow c) (hc : c ≤ 32768) (e : (n : Int) = c) : FirstSize n := by unfold Pow at h; unfold FirstSize; omega

set_option maxHeartbeats 1000000 in
theorem isFirstSize_any (n : Nat) (w : World) (hn : n ≤ 1048576) : Calls Try.prog 17 #[.int .i64 n] w (Brings w (FirstSize n)) := by
  by_cases h0 : n = 0
  · subst h0
    go_enter Try.func17, Try.ntmps17
    go_wp2
    go_ret
    exact Brings.yes _ (.inl rfl)
  · have h0' : ((n : Int) == 0) = false := by simp; omega
    go_enter Try.func17, Try.ntmps17
    go_wp2
    go_loop [3] (fun c => ∃ k : Int, c = .int .i64 k ∧ Pow k) (fun c => (70000 - intOf c).toNat)
    case atStart => exact ⟨1024, rfl, .inl rfl⟩
    case round =>
      obtain ⟨k, rfl, hk⟩ := hrel
      have hb1 := hk.bd.1
      have hb2 := hk.bd.2
      have HK := hid hk
      clear hk
      by_cases hle : k ≤ 32768
      · by_cases he : (n : Int) = k
        · have he' : ((n : Int) == k) = true := by simp [he]
          have HE := hid he
          clear he
          go_wp2
          go_ret
          exact Brings.yes _ (HK.out.first hle HE.out)
        · have he' : ((n : Int) == k) = false := by simp [he]
          clear he
          go_wp2
          go_round
          case rel => exact ⟨_, rfl, HK.out.dbl hle⟩
          case measure => simp [intOf]; omega
      · go_wp2
        go_ret
        exact Brings.no _ _

end Go.Proofs.Qxb6601469a

/-
  THE PLAIN LAW of splitID: the last of the longest runs of digits, its last 19 digits, their value read from the left and from the right. No Go in sight.
-/
namespace Go.Proofs.Qxb6601657a

/-- A digit's byte. -/
def dgt (z : Int) : Bool := decide (48 ≤ z) && decide (z ≤ 57)
theorem dgt_true {z : Int} (h : dgt z = true) : 48 ≤ z ∧ z ≤ 57 := by simpa [dgt] using h
theorem dgt_false {z : Int} (h : ¬ dgt z = true) : z < 48 ∨ 57 < z := by
  by_cases h1 : 48 ≤ z
  · by_cases h2 : z ≤ 57
    · exact absurd (by simp [dgt, h1, h2]) h
    · right; omega
  · left; omega

section
variable (f : Nat → Int) (n : Nat)

/-- A run of digits that cannot be made longer. -/
structure Run (a b : Nat) : Prop where
  lt : a < b
  le : b ≤ n
  all : ∀ k, a ≤ k → k < b → dgt (f k) = true
  lo : a = 0 ∨ ¬ dgt (f (a - 1)) = true
  hi : b = n ∨ ¬ dgt (f b) = true

/-- The last of the longest runs. -/
structure Best (a b : Nat) : Prop where
  run : Run f n a b
  best : ∀ x y, Run f n x y → y - x ≤ b - a ∧ (y - x = b - a → y ≤ b)

def NoDigit : Prop := ∀ k, k < n → ¬ dgt (f k) = true
end

variable {f : Nat → Int} {n : Nat}

theorem Best.unique {a b c d : Nat} (h : Best f n a b) (g : Best f n c d) : a = c ∧ b = d := by
  have h1 := h.best _ _ g.run
  have h2 := g.best _ _ h.run
  have := h.run.lt
  have := g.run.lt
  omega

theorem Best.absurd {a b : Nat} (h : Best f n a b) (g : NoDigit f n) : False :=
  g a (by have := h.run.lt; have := h.run.le; omega) (h.run.all a (Nat.le_refl _) h.run.lt)

/-- Two runs are one, if they meet. -/
theorem Run.meet {a b x y : Nat} (h : Run f n a b) (g : Run f n x y) (h1 : a ≤ x) (h2 : x < b) (h3 : y ≤ b) : x = a ∧ y = b := by
  have e1 : x = a := by
    by_cases e : x = a
    · exact e
    · rcases g.lo with l | l
      · omega
      · exact absurd (h.all (x - 1) (by omega) (by omega)) l
  have e2 : y = b := by
    by_cases e : y = b
    · exact e
    · rcases g.hi with l | l
      · have := h.le; omega
      · exact absurd (h.all y (by have := g.lt; omega) (by omega)) l
  exact ⟨e1, e2⟩

/-- What the walk from the left knows at i. -/
structure LInv (f : Nat → Int) (n i st en : Nat) : Prop where
  le : i ≤ n
  edge : i = 0 ∨ ¬ dgt (f (i - 1)) = true ∨ i = n ∨ ¬ dgt (f i) = true
  best : (en = 0 ∧ st = 0 ∧ ∀ k, k < i → ¬ dgt (f k) = true) ∨
    (Run f n st en ∧ en ≤ i ∧ ∀ x y, Run f n x y → y ≤ i → y - x ≤ en - st ∧ (y - x = en - st → y ≤ en))

theorem LInv.start : LInv f n 0 0 0 := ⟨Nat.zero_le _, .inl rfl, .inl ⟨rfl, rfl, fun k hk => absurd hk (by omega)⟩⟩

theorem LInv.skip {i st en : Nat} (h : LInv f n i st en) (hi : i < n) (hd : ¬ dgt (f i) = true) : LInv f n (i + 1) st en := by
  refine ⟨by omega, .inr (.inl (by simpa using hd)), ?_⟩
  rcases h.best with ⟨h1, h2, h3⟩ | ⟨h1, h2, h3⟩
  · refine .inl ⟨h1, h2, fun k hk => ?_⟩
    by_cases e : k = i
    · rw [e]; exact hd
    · exact h3 k (by omega)
  · refine .inr ⟨h1, by omega, fun x y g hy => ?_⟩
    by_cases e : y ≤ i
    · exact h3 x y g e
    · exact absurd (g.all i (by have := g.lt; omega) (by omega)) hd

/-- The digits from i to j: they are told so while j goes ahead. -/
def Digs (f : Nat → Int) (i j : Nat) : Prop := ∀ k, i ≤ k → k < j → dgt (f k) = true

theorem Digs.one {i : Nat} (h : dgt (f i) = true) : Digs f i (i + 1) := fun k h1 h2 => by
  have : k = i := by omega
  rw [this]; exact h
theorem Digs.snoc {i j : Nat} (g : Digs f i j) (h : dgt (f j) = true) : Digs f i (j + 1) := fun k h1 h2 => by
  by_cases e : k = j
  · rw [e]; exact h
  · exact g k h1 (by omega)
theorem Digs.cons {i j : Nat} (g : Digs f (i + 1) j) (h : dgt (f i) = true) : Digs f i j := fun k h1 h2 => by
  by_cases e : k = i
  · rw [e]; exact h
  · exact g k (by omega) h2

theorem LInv.run {i j st en : Nat} (h : LInv f n i st en) (hij : i < j) (hj : j ≤ n) (hd : Digs f i j) (hs : j = n ∨ ¬ dgt (f j) = true) : Run f n i j := by
  refine ⟨hij, hj, hd, ?_, hs⟩
  rcases h.edge with e | e | e | e
  · exact .inl e
  · exact .inr e
  · omega
  · exact absurd (hd i (Nat.le_refl _) hij) e

/-- Runs end ahead of i, or start behind it. -/
theorem Run.apart {i x y : Nat} (g : Run f n x y) (he : i = 0 ∨ ¬ dgt (f (i - 1)) = true ∨ i = n ∨ ¬ dgt (f i) = true) : y ≤ i ∨ i ≤ x := by
  by_cases h1 : y ≤ i
  · exact .inl h1
  · by_cases h2 : i ≤ x
    · exact .inr h2
    · have := g.le
      rcases he with e | e | e | e
      · omega
      · exact absurd (g.all (i - 1) (by omega) (by omega)) e
      · omega
      · exact absurd (g.all i (by omega) (by omega)) e

theorem LInv.take {i j st en : Nat} (h : LInv f n i st en) (hij : i < j) (hj : j ≤ n) (hd : Digs f i j) (hs : j = n ∨ ¬ dgt (f j) = true) (hl : en - st ≤ j - i) : LInv f n j i j := by
  have hr := h.run hij hj hd hs
  refine ⟨hj, by rcases hs with e | e <;> simp [e], .inr ⟨hr, Nat.le_refl _, fun x y g hy => ?_⟩⟩
  rcases g.apart h.edge with e | e
  · rcases h.best with ⟨h1, h2, h3⟩ | ⟨h1, h2, h3⟩
    · exact absurd (g.all x (Nat.le_refl _) g.lt) (h3 x (by have := g.lt; omega))
    · have := h3 x y g e
      omega
  · obtain ⟨e1, e2⟩ := hr.meet g e (by have := g.lt; omega) hy
    omega

theorem LInv.leave {i j st en : Nat} (h : LInv f n i st en) (hij : i < j) (hj : j ≤ n) (hd : Digs f i j) (hs : j = n ∨ ¬ dgt (f j) = true) (hl : ¬ en - st ≤ j - i) : LInv f n j st en := by
  have hr := h.run hij hj hd hs
  refine ⟨hj, by rcases hs with e | e <;> simp [e], ?_⟩
  rcases h.best with ⟨h1, h2, h3⟩ | ⟨h1, h2, h3⟩
  · omega
  · refine .inr ⟨h1, by omega, fun x y g hy => ?_⟩
    rcases g.apart h.edge with e | e
    · exact h3 x y g e
    · obtain ⟨e1, e2⟩ := hr.meet g e (by have := g.lt; omega) hy
      omega

theorem LInv.none {st : Nat} (h : LInv f n n st 0) : NoDigit f n := by
  rcases h.best with ⟨h1, h2, h3⟩ | ⟨h1, h2, h3⟩
  · exact h3
  · have := h1.lt; omega

theorem LInv.done {st en : Nat} (h : LInv f n n st en) (he : en ≠ 0) : Best f n st en := by
  rcases h.best with ⟨h1, h2, h3⟩ | ⟨h1, h2, h3⟩
  · exact absurd h1 he
  · exact ⟨h1, fun x y g => h3 x y g g.le⟩

/-- What the walk from the right knows at i: 'b = none': no run as yet. -/
structure RInv (f : Nat → Int) (n i : Nat) (b : Option (Nat × Nat)) : Prop where
  le : i ≤ n
  edge : i = 0 ∨ ¬ dgt (f (i - 1)) = true ∨ i = n ∨ ¬ dgt (f i) = true
  non : b = none → ∀ k, i ≤ k → k < n → ¬ dgt (f k) = true
  som : ∀ st en, b = some (st, en) → Run f n st en ∧ i ≤ st ∧ ∀ x y, Run f n x y → i ≤ x → y - x ≤ en - st ∧ (y - x = en - st → y ≤ en)

theorem RInv.start : RInv f n n none := ⟨Nat.le_refl _, .inr (.inr (.inl rfl)), fun _ k h1 h2 => absurd h1 (by omega), fun _ _ h => by cases h⟩

theorem RInv.skip {i : Nat} {b : Option (Nat × Nat)} (h : RInv f n (i + 1) b) (hd : ¬ dgt (f i) = true) : RInv f n i b := by
  refine ⟨by have := h.le; omega, .inr (.inr (.inr hd)), fun e k h1 h2 => ?_, fun st en e => ?_⟩
  · by_cases ek : k = i
    · rw [ek]; exact hd
    · exact h.non e k (by omega) h2
  · obtain ⟨h1, h2, h3⟩ := h.som st en e
    refine ⟨h1, by omega, fun x y g hx => ?_⟩
    by_cases ex : i + 1 ≤ x
    · exact h3 x y g ex
    · have : x = i := by omega
      exact absurd (this ▸ g.all x (Nat.le_refl _) g.lt) hd

theorem RInv.run {i j : Nat} {b : Option (Nat × Nat)} (h : RInv f n i b) (hij : j < i) (hd : Digs f j i) (hs : j = 0 ∨ ¬ dgt (f (j - 1)) = true) : Run f n j i := by
  refine ⟨hij, h.le, hd, hs, ?_⟩
  rcases h.edge with e | e | e | e
  · omega
  · exact absurd (hd (i - 1) (by omega) (by omega)) e
  · exact .inl e
  · exact .inr e

/-- A run that starts at j or behind it is the run (j, i), or starts at i or behind it. -/
theorem Run.split {i j x y : Nat} (hr : Run f n j i) (g : Run f n x y) (hx : j ≤ x) (he : i = 0 ∨ ¬ dgt (f (i - 1)) = true ∨ i = n ∨ ¬ dgt (f i) = true) : i ≤ x ∨ (x = j ∧ y = i) := by
  rcases g.apart he with e | e
  · exact .inr (hr.meet g hx (by have := g.lt; omega) e)
  · exact .inl e

theorem RInv.take {i j : Nat} {b : Option (Nat × Nat)} (h : RInv f n i b) (hij : j < i) (hd : Digs f j i) (hs : j = 0 ∨ ¬ dgt (f (j - 1)) = true) (hl : ∀ st en, b = some (st, en) → en - st < i - j) : RInv f n j (some (j, i)) := by
  have hr := h.run hij hd hs
  refine ⟨by have := h.le; omega, ?_, (fun e => by cases e), fun st en e => ?_⟩
  · rcases hs with e | e <;> simp [e]
  · cases e
    refine ⟨hr, Nat.le_refl _, fun x y g hx => ?_⟩
    rcases hr.split g hx h.edge with e | ⟨e1, e2⟩
    · cases b with
      | none => exact absurd (g.all x (Nat.le_refl _) g.lt) (h.non rfl x e (by have := g.lt; have := g.le; omega))
      | some p =>
        have h1 := (h.som p.1 p.2 rfl).2.2 x y g e
        have h2 := hl p.1 p.2 rfl
        omega
    · omega

theorem RInv.leave {i j st en : Nat} (h : RInv f n i (some (st, en))) (hij : j < i) (hd : Digs f j i) (hs : j = 0 ∨ ¬ dgt (f (j - 1)) = true) (hl : ¬ en - st < i - j) : RInv f n j (some (st, en)) := by
  have hr := h.run hij hd hs
  obtain ⟨h1, h2, h3⟩ := h.som st en rfl
  refine ⟨by have := h.le; omega, by rcases hs with e | e <;> simp [e], (fun e => by cases e), fun st' en' e => ?_⟩
  cases e
  refine ⟨h1, by omega, fun x y g hx => ?_⟩
  rcases hr.split g hx h.edge with e | ⟨e1, e2⟩
  · exact h3 x y g e
  · have := h1.lt
    omega

theorem RInv.nodigit (h : RInv f n 0 none) : NoDigit f n := fun k hk => h.non rfl k (Nat.zero_le _) hk
theorem RInv.done {st en : Nat} (h : RInv f n 0 (some (st, en))) : Best f n st en := by
  obtain ⟨h1, h2, h3⟩ := h.som st en rfl
  exact ⟨h1, fun x y g => h3 x y g (Nat.zero_le _)⟩

/-! ### The number -/
/-- The value of m digits from lo on, read from the left. -/
def val (f : Nat → Int) (lo : Nat) : Nat → Int
  | 0 => 0
  | m + 1 => val f lo m * 10 + (f (lo + m) - 48)

/-- The value of the m digits ahead of hi, read from the right. -/
def lav (f : Nat → Int) (hi : Nat) : Nat → Int
  | 0 => 0
  | m + 1 => lav f hi m + (f (hi - 1 - m) - 48) * (10 ^ m : Nat)

theorem val_cons (f : Nat → Int) (lo : Nat) : ∀ m, val f lo (m + 1) = (f lo - 48) * (10 ^ m : Nat) + val f (lo + 1) m
  | 0 => by simp [val]
  | m + 1 => by
    have ih := val_cons f lo m
    have e : lo + (m + 1) = lo + 1 + m := by omega
    have e2 : val f lo (m + 1 + 1) = val f lo (m + 1) * 10 + (f (lo + (m + 1)) - 48) := rfl
    have e3 : val f (lo + 1) (m + 1) = val f (lo + 1) m * 10 + (f (lo + 1 + m) - 48) := rfl
    rw [e2, e3, ih, e, Nat.pow_succ]
    have : ((10 ^ m * 10 : Nat) : Int) = ((10 ^ m : Nat) : Int) * 10 := by push_cast; rfl
    rw [this, ← Int.mul_assoc]
    generalize (f lo - 48) * ((10 ^ m : Nat) : Int) = X
    generalize val f (lo + 1) m = Y
    omega

theorem lav_val (f : Nat → Int) (lo : Nat) : ∀ m hi, hi = lo + m → lav f hi m = val f lo m := by
  intro m
  induction m generalizing lo with
  | zero => intro hi h; rfl
  | succ m ih =>
    intro hi h
    rw [val_cons]
    show lav f hi m + _ = _
    rw [ih (lo + 1) hi (by omega)]
    have : hi - 1 - m = lo := by omega
    rw [this]
    omega

theorem val_bd {lo : Nat} : ∀ m, Digs f lo (lo + m) → 0 ≤ val f lo m ∧ val f lo m < (10 ^ m : Nat)
  | 0, _ => by simp [val]
  | m + 1, h => by
    have ih := val_bd m (fun k h1 h2 => h k h1 (by omega))
    have hd := dgt_true (h (lo + m) (by omega) (by omega))
    have e2 : val f lo (m + 1) = val f lo m * 10 + (f (lo + m) - 48) := rfl
    rw [e2, Nat.pow_succ]
    have : ((10 ^ m * 10 : Nat) : Int) = ((10 ^ m : Nat) : Int) * 10 := by push_cast; rfl
    rw [this]
    generalize ((10 ^ m : Nat) : Int) = X at *
    omega

theorem pow_le_top {m : Nat} (h : m ≤ 19) : 10 ^ m ≤ 10000000000000000000 := by
  have := Nat.pow_le_pow_right (n := 10) (by decide) h
  simpa using this

/-- What splitID comes to: nothing, or the place of the digits that it keeps. -/
def Sp (f : Nat → Int) (n : Nat) : Option (Nat × Nat) → Prop
  | none => NoDigit f n
  | some (st, en) => ∃ st0, Best f n st0 en ∧ st = max st0 (en - 19)

theorem Sp.unique {r r' : Option (Nat × Nat)} (h : Sp f n r) (g : Sp f n r') : r = r' := by
  match r, r', h, g with
  | none, none, _, _ => rfl
  | none, some _, h, ⟨_, g, _⟩ => exact (g.absurd h).elim
  | some _, none, ⟨_, h, _⟩, g => exact (h.absurd g).elim
  | some (a, b), some (c, d), ⟨x, h, e⟩, ⟨y, g, e'⟩ =>
    obtain ⟨h1, h2⟩ := h.unique g
    subst h1 h2
    rw [e, e']

/-- What is known of the kept digits. -/
theorem Sp.facts {st en : Nat} (h : Sp f n (some (st, en))) :
    st < en ∧ en ≤ n ∧ en - st ≤ 19 ∧ Digs f st en ∧ (en = n ∨ ¬ dgt (f en) = true) ∧ (en - st < 19 → st = 0 ∨ ¬ dgt (f (st - 1)) = true) := by
  obtain ⟨st0, hb, e⟩ := h
  have h1 := hb.run.lt
  refine ⟨by omega, hb.run.le, by omega, fun k h2 h3 => hb.run.all k (by omega) h3, hb.run.hi, fun hl => ?_⟩
  have : st = st0 := by omega
  rw [this]
  exact hb.run.lo

end Go.Proofs.Qxb6601657a

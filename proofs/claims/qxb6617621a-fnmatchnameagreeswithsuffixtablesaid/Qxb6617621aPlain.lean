/-
  THE PLAIN LAW OF THE GLOB SEGMENT: no Go in sight. n tokens, m bytes; W i: is token i a star? O i j: does token i take byte j?
-/
import GoSem.Claim
namespace Go.Proofs.Qxb6617621a

/-- Is there a t from m - d to m at which f says yes? -/
def starD (f : Nat → Bool) (m : Nat) : Nat → Bool
  | 0 => f m
  | d + 1 => f (m - (d + 1)) || starD f m d

/-- THE TABLE, row by row from the last token: r tokens are left. -/
def T (n m : Nat) (W : Nat → Bool) (O : Nat → Nat → Bool) : Nat → Nat → Bool
  | 0, j => decide (j = m)
  | r + 1, j => if W (n - (r + 1)) = true then (decide (j ≤ m) && starD (T n m W O r) m (m - j)) else (decide (j < m) && (T n m W O r (j + 1) && O (n - (r + 1)) j))

/-- Do the tokens from i on match the bytes from j on? -/
def M (n m : Nat) (W : Nat → Bool) (O : Nat → Nat → Bool) (i j : Nat) : Bool := T n m W O (n - i) j

section
variable {n m : Nat} {W : Nat → Bool} {O : Nat → Nat → Bool}

theorem M_end (j : Nat) : M n m W O n j = decide (j = m) := by unfold M; rw [Nat.sub_self]; rfl

theorem T_star {r j : Nat} (h : W (n - (r + 1)) = true) (hj : j < m) : T n m W O (r + 1) j = (T n m W O r j || T n m W O (r + 1) (j + 1)) := by
  rw [T, if_pos h, T, if_pos h]
  obtain ⟨d, hd⟩ : ∃ d, m - j = d + 1 := ⟨m - j - 1, by omega⟩
  rw [hd, show m - (j + 1) = d by omega, starD, show m - (d + 1) = j by omega]
  have h1 : j ≤ m := by omega
  have h2 : j + 1 ≤ m := by omega
  simp [h1, h2]
theorem T_star_end {r : Nat} (h : W (n - (r + 1)) = true) : T n m W O (r + 1) m = T n m W O r m := by
  rw [T, if_pos h, Nat.sub_self, starD]
  simp
theorem T_one {r j : Nat} (h : W (n - (r + 1)) = false) (hj : j < m) : T n m W O (r + 1) j = (T n m W O r (j + 1) && O (n - (r + 1)) j) := by
  rw [T, if_neg (by rw [h]; decide)]
  simp [hj]
theorem T_one_end {r : Nat} (h : W (n - (r + 1)) = false) : T n m W O (r + 1) m = false := by
  rw [T, if_neg (by rw [h]; decide)]
  simp
theorem T_out {r j : Nat} (hj : m < j) : T n m W O r j = false := by
  cases r with
  | zero => rw [T]; simp; omega
  | succ r =>
    rw [T]
    have h1 : ¬ j ≤ m := by omega
    have h2 : ¬ j < m := by omega
    split <;> simp [h1, h2]

theorem M_row {i : Nat} (hi : i < n) (j : Nat) : ∃ r, n - i = r + 1 ∧ n - (r + 1) = i ∧ M n m W O (i + 1) j = T n m W O r j :=
  ⟨n - i - 1, by omega, by omega, by unfold M; rw [show n - (i + 1) = n - i - 1 by omega]⟩

theorem M_star {i j : Nat} (hi : i < n) (hW : W i = true) (hj : j < m) : M n m W O i j = (M n m W O (i + 1) j || M n m W O i (j + 1)) := by
  obtain ⟨r, e1, e2, e3⟩ := M_row (m := m) (W := W) (O := O) hi j
  rw [e3]
  unfold M
  rw [e1]
  exact T_star (by rw [e2]; exact hW) hj
theorem M_star_end {i : Nat} (hi : i < n) (hW : W i = true) : M n m W O i m = M n m W O (i + 1) m := by
  obtain ⟨r, e1, e2, e3⟩ := M_row (m := m) (W := W) (O := O) hi m
  rw [e3]
  unfold M
  rw [e1]
  exact T_star_end (by rw [e2]; exact hW)
theorem M_one {i j : Nat} (hi : i < n) (hW : W i = false) (hj : j < m) : M n m W O i j = (M n m W O (i + 1) (j + 1) && O i j) := by
  obtain ⟨r, e1, e2, e3⟩ := M_row (m := m) (W := W) (O := O) hi (j + 1)
  rw [e3]
  unfold M
  rw [e1, T_one (by rw [e2]; exact hW) hj, e2]
theorem M_one_end {i : Nat} (hi : i < n) (hW : W i = false) : M n m W O i m = false := by
  obtain ⟨r, e1, e2, _⟩ := M_row (m := m) (W := W) (O := O) hi m
  unfold M
  rw [e1]
  exact T_one_end (by rw [e2]; exact hW)
theorem M_out {i j : Nat} (hj : m < j) : M n m W O i j = false := T_out hj

/-- A star takes what comes: from a later byte, hence from an earlier one. -/
theorem M_earlier {i : Nat} (hi : i < n) (hW : W i = true) : ∀ {d j : Nat}, j + d ≤ m → M n m W O i (j + d) = true → M n m W O i j = true
  | 0, _, _, h => h
  | d + 1, j, hd, h => by
    rw [M_star hi hW (by omega), M_earlier (d := d) (j := j + 1) hi hW (by omega) (by rw [show j + 1 + d = j + (d + 1) by omega]; exact h)]
    simp

/-- Tokens that are no stars take one byte each. -/
theorem M_steps : ∀ {k p t : Nat}, (∀ q, p ≤ q → q < p + k → W q = false) → p + k ≤ n → t ≤ m → M n m W O p t = true → t + k ≤ m ∧ M n m W O (p + k) (t + k) = true
  | 0, _, _, _, _, ht, h => ⟨ht, h⟩
  | k + 1, p, t, hW, hp, ht, h => by
    have hw : W p = false := hW p (Nat.le_refl _) (by omega)
    by_cases htm : t = m
    · subst htm
      rw [M_one_end (by omega) hw] at h
      cases h
    · rw [M_one (by omega) hw (by omega)] at h
      have h' : M n m W O (p + 1) (t + 1) = true := by
        cases e : M n m W O (p + 1) (t + 1) with
        | true => rfl
        | false => rw [e] at h; simp at h
      have := M_steps (k := k) (p := p + 1) (t := t + 1) (fun q h1 h2 => hW q (by omega) (by omega)) (by omega) (by omega) h'
      rw [show p + (k + 1) = p + 1 + k by omega, show t + (k + 1) = t + 1 + k by omega]
      exact this

/-- A star that matches does so by leaving the rest from some later byte. -/
theorem M_star_rest {p : Nat} (hp : p < n) (hW : W p = true) : ∀ {d j : Nat}, j + d = m → M n m W O p j = true → ∃ t, j ≤ t ∧ t ≤ m ∧ M n m W O (p + 1) t = true
  | 0, j, hd, h => by
    obtain rfl : j = m := by omega
    rw [M_star_end hp hW] at h
    exact ⟨j, Nat.le_refl _, Nat.le_refl _, h⟩
  | d + 1, j, hd, h => by
    rw [M_star hp hW (by omega)] at h
    cases e : M n m W O (p + 1) j with
    | true => exact ⟨j, Nat.le_refl _, by omega, e⟩
    | false =>
      rw [e] at h
      obtain ⟨t, h1, h2, h3⟩ := M_star_rest (d := d) (j := j + 1) hp hW (by omega) (by simpa using h)
      exact ⟨t, by omega, h2, h3⟩

/-- What going back to the last star may still give: p - 1 is its place (p = 0: there is none), b the byte that it was last tried at. -/
def BV (n m : Nat) (W : Nat → Bool) (O : Nat → Nat → Bool) (p b : Nat) : Bool := if p = 0 then false else decide (b < m) && M n m W O (p - 1) (b + 1)

/-- THE STATE OF THE SEARCH. -/
structure Inv (n m : Nat) (W : Nat → Bool) (O : Nat → Nat → Bool) (i j p b : Nat) : Prop where
  hi : i ≤ n
  hj : j ≤ m
  hp : p ≤ i
  hb : b ≤ m
  pos : 0 < p → j = b + (i - p) ∧ W (p - 1) = true
  ones : 0 < p → ∀ q, p ≤ q → q < i → W q = false

theorem Inv.start : Inv n m W O 0 0 0 0 := ⟨Nat.zero_le _, Nat.zero_le _, Nat.le_refl _, Nat.zero_le _, fun h => absurd h (Nat.lt_irrefl _), fun h => absurd h (Nat.lt_irrefl _)⟩

/-- What the older star could give, token i gives from byte j + 1 or later: so where it is a star itself nothing is lost. -/
theorem Inv.back {i j p b : Nat} (h : Inv n m W O i j p b) (hb : BV n m W O p b = true) : ∃ x, j + 1 ≤ x ∧ x ≤ m ∧ M n m W O i x = true := by
  unfold BV at hb
  split at hb
  · cases hb
  · rename_i hp0
    simp at hb
    obtain ⟨hbm, hM⟩ := hb
    obtain ⟨e, hW⟩ := h.pos (by omega)
    have hi := h.hi
    have hpi := h.hp
    obtain ⟨t, t1, t2, t3⟩ := M_star_rest (p := p - 1) (by omega) hW (d := m - (b + 1)) (by omega) hM
    rw [show p - 1 + 1 = p by omega] at t3
    obtain ⟨s1, s2⟩ := M_steps (k := i - p) (p := p) (t := t) (fun q h1 h2 => h.ones (by omega) q h1 (by omega)) (by omega) t2 t3
    rw [show p + (i - p) = i by omega] at s2
    exact ⟨t + (i - p), by omega, s1, s2⟩

variable {R : Bool} {i j p b : Nat}

theorem inv_star (h : Inv n m W O i j p b) (hR : R = (M n m W O i j || BV n m W O p b)) (hi : i < n) (hj : j < m) (hW : W i = true) :
    Inv n m W O (i + 1) j (i + 1) j ∧ R = (M n m W O (i + 1) j || BV n m W O (i + 1) j) := by
  refine ⟨⟨by omega, h.hj, Nat.le_refl _, h.hj, fun _ => ⟨by omega, by simpa using hW⟩, fun _ q h1 h2 => by omega⟩, ?_⟩
  have e1 : BV n m W O (i + 1) j = M n m W O i (j + 1) := by unfold BV; simp [hj]
  rw [e1, ← M_star hi hW hj, hR]
  cases hb : BV n m W O p b with
  | false => simp
  | true =>
    obtain ⟨x, x1, x2, x3⟩ := h.back hb
    have := M_earlier (m := m) (O := O) hi hW (d := x - j) (j := j) (by omega) (by rw [show j + (x - j) = x by omega]; exact x3)
    rw [this]
    rfl

theorem inv_one (h : Inv n m W O i j p b) (hR : R = (M n m W O i j || BV n m W O p b)) (hi : i < n) (hj : j < m) (hW : W i = false) (hO : O i j = true) :
    Inv n m W O (i + 1) (j + 1) p b ∧ R = (M n m W O (i + 1) (j + 1) || BV n m W O p b) := by
  refine ⟨⟨by omega, by omega, by have := h.hp; omega, h.hb, fun hp => ⟨by have := (h.pos hp).1; have := h.hp; omega, (h.pos hp).2⟩, fun hp q h1 h2 => ?_⟩, ?_⟩
  · by_cases e : q = i
    · subst e; exact hW
    · exact h.ones hp q h1 (by omega)
  · rw [hR, M_one hi hW hj, hO]
    simp

theorem stuck (hn : n ≤ i ∨ (i < n ∧ W i = false ∧ O i j = false)) (hi : i ≤ n) (hj : j < m) : M n m W O i j = false := by
  rcases hn with hn | ⟨h1, h2, h3⟩
  · obtain rfl : i = n := by omega
    rw [M_end]; simp; omega
  · rw [M_one h1 h2 hj, h3]; simp

theorem inv_none (hR : R = (M n m W O i j || BV n m W O p b)) (hs : M n m W O i j = false) (hp : p = 0) : R = false := by
  rw [hR, hs, hp]; rfl

theorem inv_back (h : Inv n m W O i j p b) (hR : R = (M n m W O i j || BV n m W O p b)) (hj : j < m) (hs : M n m W O i j = false) (hp : 0 < p) :
    Inv n m W O p (b + 1) p (b + 1) ∧ R = (M n m W O p (b + 1) || BV n m W O p (b + 1)) := by
  obtain ⟨e, hW⟩ := h.pos hp
  have hpi := h.hp
  have hin := h.hi
  have hbj : b ≤ j := by omega
  refine ⟨⟨by omega, by omega, Nat.le_refl _, by omega, fun _ => ⟨by omega, hW⟩, fun _ q h1 h2 => by omega⟩, ?_⟩
  have e0 : BV n m W O p b = M n m W O (p - 1) (b + 1) := by unfold BV; rw [if_neg (by omega)]; simp; omega
  rw [hR, hs, Bool.false_or, e0]
  by_cases hb1 : b + 1 < m
  · rw [M_star (i := p - 1) (by omega) hW hb1, show p - 1 + 1 = p by omega]
    unfold BV
    rw [if_neg (by omega)]
    simp [hb1]
  · have hbm : b + 1 = m := by omega
    rw [hbm, M_star_end (i := p - 1) (by omega) hW, show p - 1 + 1 = p by omega]
    unfold BV
    simp

theorem inv_end (h : Inv n m W O i m p b) (hR : R = (M n m W O i m || BV n m W O p b)) : R = M n m W O i m := by
  cases hb : BV n m W O p b with
  | false => rw [hR, hb]; simp
  | true =>
    obtain ⟨x, x1, x2, _⟩ := h.back hb
    omega

/-- A NUMBER THAT EVERY ROUND LOWERS. -/
def meas (n m p b i : Nat) : Nat := (n + 1 - p) * ((m + 1) * (n + 1)) + ((m - b) * (n + 1) + (n - i))

theorem meas_star (h : Inv n m W O i j p b) (hi : i < n) : meas n m (i + 1) j (i + 1) < meas n m p b i := by
  unfold meas
  have hp := h.hp
  obtain ⟨A, hA⟩ : ∃ A, A = (m + 1) * (n + 1) := ⟨_, rfl⟩
  have e : (n + 1 - p) * A = (n + 1 - (i + 1)) * A + (i + 1 - p) * A := by rw [← Nat.add_mul]; congr 1; omega
  have h1 : 1 * A ≤ (i + 1 - p) * A := Nat.mul_le_mul_right _ (by omega)
  have h2 : (m - j) * (n + 1) ≤ m * (n + 1) := Nat.mul_le_mul_right _ (by omega)
  have h3 : A = m * (n + 1) + (n + 1) := by rw [hA, Nat.add_mul, Nat.one_mul]
  rw [← hA, e]
  rw [Nat.one_mul] at h1
  generalize (n + 1 - (i + 1)) * A = X at *
  generalize (i + 1 - p) * A = Y at *
  generalize (m - j) * (n + 1) = Z at *
  generalize m * (n + 1) = V at *
  generalize (m - b) * (n + 1) = U at *
  omega
theorem meas_one (hi : i < n) : meas n m p b (i + 1) < meas n m p b i := by unfold meas; omega
theorem meas_back (h : Inv n m W O i j p b) (hj : j < m) (hp : 0 < p) : meas n m p (b + 1) p < meas n m p b i := by
  unfold meas
  obtain ⟨e, _⟩ := h.pos hp
  have hpi := h.hp
  have hin := h.hi
  have hbj : b ≤ j := by omega
  have e1 : (m - b) * (n + 1) = (m - (b + 1)) * (n + 1) + (n + 1) := by
    rw [show m - b = (m - (b + 1)) + 1 by omega, Nat.add_mul, Nat.one_mul]
  rw [e1]
  generalize (m - (b + 1)) * (n + 1) = Z at *
  generalize (n + 1 - p) * ((m + 1) * (n + 1)) = X at *
  omega

end
end Go.Proofs.Qxb6617621a

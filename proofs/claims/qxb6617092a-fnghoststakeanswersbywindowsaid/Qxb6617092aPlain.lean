/-
  THE PLAIN LAW OF THE GHOSTS: no Go in sight. 'all': every hash ever added; 'f': how many places have been dropped; 'R': of each hash the place by which it is remembered, if it is; 'D': the map as it reads.
-/
import Derived.Maps.Views
namespace Go.Proofs.Qxb6617092a
open Go.Maps

/-- How many j below n meet p. -/
def cntTo (p : Nat → Bool) : Nat → Nat
  | 0 => 0
  | n + 1 => cntTo p n + (if p n = true then 1 else 0)

theorem cntTo_congr {p q : Nat → Bool} : ∀ {n : Nat}, (∀ j, j < n → p j = q j) → cntTo p n = cntTo q n
  | 0, _ => rfl
  | n + 1, h => by
    rw [cntTo, cntTo, cntTo_congr (fun j hj => h j (by omega)), h n (by omega)]

theorem cntTo_less {p q : Nat → Bool} {j0 : Nat} : ∀ {n : Nat}, j0 < n → p j0 = true → q j0 = false → (∀ j, j < n → j ≠ j0 → p j = q j) → cntTo q n + 1 = cntTo p n
  | 0, h, _, _, _ => by omega
  | n + 1, h, h1, h2, h3 => by
    rw [cntTo, cntTo]
    by_cases e : j0 = n
    · subst e
      rw [cntTo_congr (fun j hj => h3 j (by omega) (by omega)), h1, h2]
      simp
    · have := cntTo_less (n := n) (by omega) h1 h2 (fun j hj => h3 j (by omega))
      rw [h3 n (by omega) (fun e' => e e'.symm)]
      omega

theorem cntTo_le (p : Nat → Bool) : ∀ n, cntTo p n ≤ n
  | 0 => Nat.le_refl _
  | n + 1 => by
    have := cntTo_le p n
    rw [cntTo]
    split <;> omega

theorem cntTo_zero {p : Nat → Bool} : ∀ {n : Nat}, (∀ j, j < n → p j = false) → cntTo p n = 0
  | 0, _ => rfl
  | n + 1, h => by
    rw [cntTo, cntTo_zero (fun j hj => h j (by omega)), h n (by omega)]
    rfl

def U (h : Int) : Lit := .int .u64 h
def uz : DataW Unit := .lit (.int .u64 0)
theorem isKeyU (h : Int) : WideAt.IsKeyLit (U h) := by simp [U, WideAt.IsKeyLit]
theorem U_inj {a b : Int} (h : a ≠ b) : U a ≠ U b := fun e => h (by simpa [U] using e)

def upd (R : Int → Option Nat) (h : Int) (o : Option Nat) : Int → Option Nat := fun x => if x = h then o else R x
def dropR (R : Int → Option Nat) (f : Nat) : Int → Option Nat := fun x => if R x = some f then none else R x

theorem upd_same (R : Int → Option Nat) (h : Int) (o : Option Nat) : upd R h o h = o := by simp [upd]
theorem upd_other (R : Int → Option Nat) {h x : Int} (o : Option Nat) (e : x ≠ h) : upd R h o x = R x := by simp [upd, e]

/-- The hash that was added at place j. -/
def nth (all : List Int) (j : Nat) : Int := all.getD j 0

structure Rem (D : DataW Unit) (all : List Int) (f : Nat) (R : Int → Option Nat) : Prop where
  tidy : Tidy D
  has : ∀ h, Maps.has D (U h) = (R h).isSome
  val : ∀ h j, R h = some j → D.atKey (U h) uz = .lit (.int .u64 j)
  idx : ∀ h j, R h = some j → f ≤ j ∧ j < all.length ∧ nth all j = h
  size : Maps.size D = cntTo (fun j => decide (R (nth all j) = some j)) all.length

theorem Rem.start : Rem (.map []) [] 0 (fun _ => none) :=
  ⟨tidy_empty, fun _ => rfl, fun _ _ h => (by cases h), fun _ _ h => (by cases h), rfl⟩

theorem nth_snoc_lt (all : List Int) (h : Int) {j : Nat} (hj : j < all.length) : nth (all ++ [h]) j = nth all j := by
  unfold nth
  simp [List.getD, List.getElem?_append_left hj]

theorem nth_snoc_at (all : List Int) (h : Int) : nth (all ++ [h]) all.length = h := by
  unfold nth
  simp [List.getD]

/-- One hash more. -/
theorem Rem.put {D : DataW Unit} {all : List Int} {f : Nat} {R : Int → Option Nat} (r : Rem D all f R) (hf : f ≤ all.length) (h : Int) :
    Rem (D.put (U h) (.lit (.int .u64 all.length))) (all ++ [h]) f (upd R h (some all.length)) where
  tidy := r.tidy.put (isKeyU h) _
  has := fun x => by
    by_cases e : x = h
    · subst e; rw [has_put_same r.tidy.isMap (isKeyU x), upd_same]; rfl
    · rw [has_put_other (U_inj e), upd_other _ _ e, r.has]
  val := fun x j hx => by
    by_cases e : x = h
    · subst e
      rw [upd_same] at hx
      obtain rfl : all.length = j := by simpa using hx
      rw [atKey_put_same r.tidy.isMap (isKeyU x)]
    · rw [upd_other _ _ e] at hx
      rw [atKey_put_other (U_inj e)]
      exact r.val x j hx
  idx := fun x j hx => by
    by_cases e : x = h
    · subst e
      rw [upd_same] at hx
      obtain rfl : all.length = j := by simpa using hx
      exact ⟨hf, by simp, nth_snoc_at all x⟩
    · rw [upd_other _ _ e] at hx
      obtain ⟨h1, h2, h3⟩ := r.idx x j hx
      exact ⟨h1, by simp; omega, by rw [nth_snoc_lt _ _ h2]; exact h3⟩
  size := by
    rw [size_put r.tidy, r.has, List.length_append, List.length_singleton, cntTo]
    have hlast : decide (upd R h (some all.length) (nth (all ++ [h]) all.length) = some all.length) = true := by
      rw [nth_snoc_at, upd_same]; simp
    rw [hlast]
    have hR : ∀ j, j < all.length → nth all j ≠ h → decide (upd R h (some all.length) (nth (all ++ [h]) j) = some j) = decide (R (nth all j) = some j) := fun j hj hne => by
      rw [nth_snoc_lt _ _ hj, upd_other _ _ hne]
    have hN : ∀ j, j < all.length → nth all j = h → decide (upd R h (some all.length) (nth (all ++ [h]) j) = some j) = false := fun j hj he => by
      rw [nth_snoc_lt _ _ hj, he, upd_same]; simp; omega
    cases hRh : R h with
    | none =>
      have : cntTo (fun j => decide (upd R h (some all.length) (nth (all ++ [h]) j) = some j)) all.length = cntTo (fun j => decide (R (nth all j) = some j)) all.length :=
        cntTo_congr fun j hj => by
          by_cases he : nth all j = h
          · rw [hN j hj he, he, hRh]; simp
          · exact hR j hj he
      simp only [this, Option.isSome, Bool.false_eq_true, if_false, if_true, r.size]
    | some j0 =>
      obtain ⟨_, h2, h3⟩ := r.idx h j0 hRh
      have := cntTo_less (p := fun j => decide (R (nth all j) = some j)) (q := fun j => decide (upd R h (some all.length) (nth (all ++ [h]) j) = some j)) h2 (by simp [h3, hRh]) (hN j0 h2 h3) (fun j hj hne => by
        by_cases he : nth all j = h
        · show decide (R (nth all j) = some j) = _
          rw [hN j hj he, he, hRh]; simpa using fun e => hne e.symm
        · exact (hR j hj he).symm)
      simp only [Option.isSome, if_true, r.size]
      omega

theorem dropR_some {R : Int → Option Nat} {f j : Nat} {h : Int} (hx : dropR R f h = some j) : R h = some j ∧ j ≠ f := by
  unfold dropR at hx
  split at hx
  · cases hx
  · rename_i hn
    exact ⟨hx, fun e => hn (by rw [hx, e])⟩

/-- The oldest place goes, and nothing is remembered by it. -/
theorem Rem.keep {D : DataW Unit} {all : List Int} {f : Nat} {R : Int → Option Nat} (r : Rem D all f R) (hno : ∀ h, R h ≠ some f) : Rem D all (f + 1) (dropR R f) := by
  have e : dropR R f = R := by
    funext h
    unfold dropR
    rw [if_neg (hno h)]
  rw [e]
  refine ⟨r.tidy, r.has, r.val, fun h j hj => ?_, r.size⟩
  obtain ⟨h1, h2, h3⟩ := r.idx h j hj
  have : j ≠ f := fun e' => hno h (by rw [hj, e'])
  exact ⟨by omega, h2, h3⟩

/-- A hash is forgotten. -/
theorem Rem.forget {D : DataW Unit} {all : List Int} {f : Nat} {R : Int → Option Nat} (r : Rem D all f R) {h : Int} {j0 : Nat} (hj : R h = some j0) : Rem (D.del (U h)) all f (upd R h none) where
  tidy := r.tidy.del _
  has := fun x => by
    by_cases e : x = h
    · subst e; rw [has_del_same, upd_same]; rfl
    · rw [has_del_other (U_inj e), upd_other _ _ e, r.has]
  val := fun x j hx => by
    by_cases e : x = h
    · subst e; rw [upd_same] at hx; cases hx
    · rw [upd_other _ _ e] at hx
      rw [atKey_del_other (U_inj e)]
      exact r.val x j hx
  idx := fun x j hx => by
    by_cases e : x = h
    · subst e; rw [upd_same] at hx; cases hx
    · rw [upd_other _ _ e] at hx
      exact r.idx x j hx
  size := by
    obtain ⟨_, h2, h3⟩ := r.idx h j0 hj
    have hs := size_del (k := U h) r.tidy
    rw [r.has, hj] at hs
    have := cntTo_less (p := fun j => decide (R (nth all j) = some j)) (q := fun j => decide (upd R h none (nth all j) = some j)) h2 (by simp [h3, hj]) (by simp [h3, upd_same]) (fun j hjl hne => by
      by_cases he : nth all j = h
      · show decide (R (nth all j) = some j) = decide (upd R h none (nth all j) = some j)
        rw [he, upd_same, hj]; simpa using fun e => hne e.symm
      · show decide (R (nth all j) = some j) = decide (upd R h none (nth all j) = some j)
        rw [upd_other _ _ he])
    simp only [Option.isSome, if_true, r.size] at hs
    omega

/-- The oldest place goes; its hash was remembered by it: it is forgotten. -/
theorem Rem.drop {D : DataW Unit} {all : List Int} {f : Nat} {R : Int → Option Nat} (r : Rem D all f R) (hR : R (nth all f) = some f) : Rem (D.del (U (nth all f))) all (f + 1) (dropR R f) := by
  have e : dropR R f = upd R (nth all f) none := by
    funext h
    unfold dropR upd
    by_cases e' : h = nth all f
    · subst e'; simp [hR]
    · rw [if_neg e', if_neg (fun e2 => e' (r.idx h f e2).2.2.symm)]
  rw [e]
  have r1 := r.forget hR
  refine ⟨r1.tidy, r1.has, r1.val, fun h j hj => ?_, r1.size⟩
  obtain ⟨h1, h2, h3⟩ := r1.idx h j hj
  have : j ≠ f := fun e' => by
    subst e'
    rw [← h3, upd_same] at hj
    cases hj
  exact ⟨by omega, h2, h3⟩

/-- THE ROUND OF 'add', WHERE THE LOOK-UP SAYS f. -/
theorem Rem.hit {D : DataW Unit} {all : List Int} {f : Nat} {R : Int → Option Nat} (r : Rem D all f R) (hat : D.atKey (U (nth all f)) uz = .lit (.int .u64 f)) : Rem (D.del (U (nth all f))) all (f + 1) (dropR R f) := by
  cases hR : R (nth all f) with
  | none =>
    rw [del_of_not_has (by rw [r.has, hR]; rfl)]
    exact r.keep fun h e => by
      have := (r.idx h f e).2.2
      rw [← this, hR] at e
      cases e
  | some j =>
    have := r.val _ _ hR
    rw [hat] at this
    have h2 : (f : Int) = j := by simpa using this
    obtain rfl : f = j := by omega
    exact r.drop hR

/-- .. WHERE IT SAYS ANOTHER NUMBER. -/
theorem Rem.miss {D : DataW Unit} {all : List Int} {f : Nat} {R : Int → Option Nat} (r : Rem D all f R) {c : Int} (hat : D.atKey (U (nth all f)) uz = .lit (.int .u64 c)) (hne : c ≠ f) : Rem D all (f + 1) (dropR R f) :=
  r.keep fun h e => by
    have hh := (r.idx h f e).2.2
    rw [← hh] at e
    have := r.val _ _ e
    rw [hat] at this
    exact hne (by simpa using this)

end Go.Proofs.Qxb6617092a

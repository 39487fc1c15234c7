/-
  THE PLAIN LAW OF ADDS AND TAKES: no Go in sight. A: is the call an add? H: its hash.
-/
import Derived.Test.Qxb6617092aLawA
namespace Go.Proofs.Qxb6617092a

/-- The hashes added by the first k calls. -/
def adds (A : Nat → Bool) (H : Nat → Int) : Nat → List Int
  | 0 => []
  | k + 1 => if A k = true then adds A H k ++ [H k] else adds A H k

theorem adds_length (A : Nat → Bool) (H : Nat → Int) : ∀ k, (adds A H k).length = cntTo A k
  | 0 => rfl
  | k + 1 => by
    rw [adds, cntTo]
    split <;> simp [adds_length A H k]

theorem cntTo_mono (p : Nat → Bool) {k : Nat} : ∀ {n : Nat}, k ≤ n → cntTo p k ≤ cntTo p n
  | 0, h => by obtain rfl : k = 0 := by omega
               exact Nat.le_refl _
  | n + 1, h => by
    by_cases e : k = n + 1
    · subst e; exact Nat.le_refl _
    · have := cntTo_mono p (k := k) (n := n) (by omega)
      rw [cntTo]
      split <;> omega

theorem cntTo_succ_yes {p : Nat → Bool} {k : Nat} (h : p k = true) : cntTo p (k + 1) = cntTo p k + 1 := by rw [cntTo, if_pos h]
theorem cntTo_succ_no {p : Nat → Bool} {k : Nat} (h : p k = false) : cntTo p (k + 1) = cntTo p k := by rw [cntTo, h]; rfl

theorem nth_adds {A : Nat → Bool} {H : Nat → Int} {q : Nat} (hA : A q = true) : ∀ {n : Nat}, q < n → nth (adds A H n) (cntTo A q) = H q
  | 0, h => by omega
  | n + 1, h => by
    rw [adds]
    by_cases e : q = n
    · subst e
      rw [if_pos hA, ← adds_length A H q, nth_snoc_at]
    · have ih := nth_adds (H := H) hA (n := n) (by omega)
      have hlt : cntTo A q < (adds A H n).length := by
        rw [adds_length]
        have := cntTo_mono A (k := q + 1) (n := n) (by omega)
        rw [cntTo_succ_yes hA] at this
        omega
      split
      · rw [nth_snoc_lt _ _ hlt]; exact ih
      · exact ih

theorem adds_wf {A : Nat → Bool} {H : Nat → Int} : ∀ {k : Nat}, (∀ j, j < k → (Lit.int .u64 (H j)).wf = true) → ∀ j, (Lit.int .u64 (nth (adds A H k) j)).wf = true
  | 0, _, j => by
    have e : nth (adds A H 0) j = 0 := by simp [adds, nth]
    rw [e]; decide
  | k + 1, h, j => by
    rw [adds]
    split
    · exact wf_snoc (adds_wf fun i hi => h i (by omega)) (h k (by omega)) j
    · exact adds_wf (fun i hi => h i (by omega)) j

/-- By which place is x remembered behind the first k calls, the places below f being gone? -/
def RT (A : Nat → Bool) (H : Nat → Int) (k f : Nat) : Int → Option Nat := fun x => match lastIx H k x with
  | some q => if A q = true ∧ f ≤ cntTo A q then some (cntTo A q) else none
  | none => none

theorem RT_add {A : Nat → Bool} {H : Nat → Int} {k f f' : Nat} (hA : A k = true) (hf : f ≤ f') : dropTo (upd (RT A H k f) (H k) (some (cntTo A k))) f' = RT A H (k + 1) f' := by
  funext x
  unfold dropTo upd RT
  rw [lastIx]
  by_cases e : x = H k
  · subst e
    by_cases h : cntTo A k < f'
    · have h2 : ¬ f' ≤ cntTo A k := by omega
      simp [hA, h, h2]
    · have h2 : f' ≤ cntTo A k := by omega
      simp [hA, h, h2]
  · rw [if_neg e, if_neg (fun e' => e e'.symm)]
    cases hx : lastIx H k x with
    | none => simp
    | some q =>
      by_cases h1 : A q = true ∧ f ≤ cntTo A q
      · by_cases h2 : cntTo A q < f'
        · simp [h1, h2]
        · have h3 : A q = true ∧ f' ≤ cntTo A q := ⟨h1.1, by omega⟩
          simp [h1, h2, h3.2]
      · have h3 : ¬ (A q = true ∧ f' ≤ cntTo A q) := fun h => h1 ⟨h.1, by omega⟩
        simp [h1, h3]

theorem RT_take {A : Nat → Bool} {H : Nat → Int} {k f : Nat} (hA : A k = false) : upd (RT A H k f) (H k) none = RT A H (k + 1) f := by
  funext x
  unfold upd RT
  rw [lastIx]
  by_cases e : x = H k
  · subst e; simp [hA]
  · rw [if_neg e, if_neg (fun e' => e e'.symm)]

theorem RT_start (A : Nat → Bool) (H : Nat → Int) (x : Int) : RT A H 0 0 x = none := rfl

/-- 'zzRememberedAt'. -/
def remB (A : Nat → Bool) (H : Nat → Int) (k f : Nat) (x : Int) : Bool := (RT A H k f x).isSome

theorem remB_none {A : Nat → Bool} {H : Nat → Int} {k f : Nat} {x : Int} (h : lastIx H k x = none) : remB A H k f x = false := by
  unfold remB RT; rw [h]; rfl
theorem remB_at {A : Nat → Bool} {H : Nat → Int} {k f q : Nat} {x : Int} (h : lastIx H k x = some q) : remB A H k f x = (A q && decide (f ≤ cntTo A q)) := by
  unfold remB RT
  rw [h]
  cases hA : A q <;> by_cases h2 : f ≤ cntTo A q <;> simp [hA, h2]

/-- Is call q the last that names its hash, an add, and its place still there? -/
def pT (A : Nat → Bool) (H : Nat → Int) (n f : Nat) : Nat → Bool := fun q => decide (lastIx H n (H q) = some q) && (A q && decide (f ≤ cntTo A q))

theorem cnt_both {A : Nat → Bool} {H : Nat → Int} {n f : Nat} : ∀ {k : Nat}, k ≤ n → cntTo (fun j => decide (RT A H n f (nth (adds A H n) j) = some j)) (cntTo A k) = cntTo (pT A H n f) k
  | 0, _ => rfl
  | k + 1, hk => by
    have ih := cnt_both (A := A) (H := H) (n := n) (f := f) (k := k) (by omega)
    cases hA : A k with
    | false =>
      rw [cntTo_succ_no hA, ih, cntTo_succ_no]
      simp [pT, hA]
    | true =>
      rw [cntTo_succ_yes hA, cntTo, cntTo, ih, nth_adds hA (by omega)]
      congr 2
      have key : (RT A H n f (H k) = some (cntTo A k)) ↔ (lastIx H n (H k) = some k ∧ f ≤ cntTo A k) := by
        unfold RT
        cases hl : lastIx H n (H k) with
        | none => simp
        | some q =>
          have hq := lastIx_ge (by omega) hl
          by_cases e : q = k
          · subst e; simp [hA]
          · have hlt : cntTo A k < cntTo A q := by
              have := cntTo_mono A (k := k + 1) (n := q) (by omega)
              rw [cntTo_succ_yes hA] at this
              omega
            have hne : ¬ cntTo A q = cntTo A k := by omega
            simp [e]
            intro _ _
            exact hne
      unfold pT
      rw [hA]
      by_cases h1 : lastIx H n (H k) = some k <;> by_cases h2 : f ≤ cntTo A k <;> simp [key, h1, h2]

theorem RT_last {A : Nat → Bool} {H : Nat → Int} {n f q : Nat} (h : lastIx H n (H q) = some q) : RT A H n f (H q) = if A q = true ∧ f ≤ cntTo A q then some (cntTo A q) else none := by
  unfold RT; rw [h]

theorem lastIx_later {H : Nat → Int} {n i j : Nat} (hij : i < j) (hj : j < n) (he : H j = H i) : lastIx H n (H i) ≠ some i := fun h => by
  rw [← he] at h
  have := lastIx_ge hj h
  omega

end Go.Proofs.Qxb6617092a

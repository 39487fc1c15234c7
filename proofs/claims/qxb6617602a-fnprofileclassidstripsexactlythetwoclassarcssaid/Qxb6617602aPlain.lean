/-
  THE PLAIN LAW OF THE CLASS ARCS: no Go in sight. Bytes are numbers from 0 to 255.
-/
import GoSem.Claim
namespace Go.Proofs.Qxb6617602a

/-- The bytes from place k on, m of them. -/
def seg (z : Nat → Int) : Nat → Nat → List Int
  | _, 0 => []
  | k, m + 1 => z k :: seg z (k + 1) m

theorem seg_length (z : Nat → Int) : ∀ k m, (seg z k m).length = m
  | _, 0 => rfl
  | k, m + 1 => by rw [seg, List.length_cons, seg_length z (k + 1) m]

theorem seg_get (z : Nat → Int) : ∀ k m i, i < m → (seg z k m).getD i 0 = z (k + i)
  | _, 0, i, h => by omega
  | k, m + 1, 0, _ => by simp [seg]
  | k, m + 1, i + 1, h => by
    have := seg_get z (k + 1) m i (by omega)
    rw [show k + (i + 1) = k + 1 + i by omega, ← this]
    simp [seg]

theorem seg_step (z : Nat → Int) {k len : Nat} (h : k < len) : seg z k (len - k) = z k :: seg z (k + 1) (len - (k + 1)) := by
  obtain ⟨m, hm⟩ : ∃ m, len - k = m + 1 := ⟨len - k - 1, by omega⟩
  rw [hm, seg, show len - (k + 1) = m by omega]

theorem seg_congr {z y : Nat → Int} : ∀ {k j m : Nat}, (∀ i, i < m → z (k + i) = y (j + i)) → seg z k m = seg y j m
  | _, _, 0, _ => rfl
  | k, j, m + 1, h => by
    rw [seg, seg, seg_congr (k := k + 1) (j := j + 1) (m := m) (fun i hi => by have := h (i + 1) (by omega); rw [show k + 1 + i = k + (i + 1) by omega, show j + 1 + i = j + (i + 1) by omega]; exact this)]
    have := h 0 (by omega)
    simp at this
    rw [this]

theorem seg_inj {z y : Nat → Int} : ∀ {k j m : Nat}, seg z k m = seg y j m → ∀ i, i < m → z (k + i) = y (j + i)
  | _, _, 0, _, i, h => by omega
  | k, j, m + 1, he, i, h => by
    rw [seg, seg] at he
    simp only [List.cons.injEq] at he
    cases i with
    | zero => exact he.1
    | succ i =>
      have := seg_inj he.2 i (by omega)
      rwa [show k + 1 + i = k + (i + 1) by omega, show j + 1 + i = j + (i + 1) by omega] at this

/-- One subidentifier, v being what has been read of it. -/
def sub : Int → List Int → Option (Int × List Int)
  | _, [] => none
  | v, b :: r => if 1099511627776 < v then none else if b < 128 then some (v * 128 + b % 128, r) else sub (v * 128 + b % 128) r

/-- The arcs of the first subidentifier. -/
def first (v : Int) : List Int := if v < 40 then [0, v] else if v < 80 then [1, v - 40] else [2, v - 80]

def T1 : List Int := [1, 3, 6, 1, 4, 1, 3704, 3, 1]
def T2 : List Int := [1, 3, 6, 1, 4, 1, 3704, 3, 2]
def C1 : List Int := [43, 6, 1, 4, 1, 156, 120, 3, 1]
def C2 : List Int := [43, 6, 1, 4, 1, 156, 120, 3, 2]
def final (acc : List Int) : Bool := decide (acc = T1) || decide (acc = T2)

/-- 'contentIsClassArcs'. -/
def run : Nat → List Int → List Int → Bool
  | _, acc, [] => final acc
  | 0, _, _ :: _ => false
  | f + 1, acc, b :: r => if b = 128 then false else match sub 0 (b :: r) with
    | none => false
    | some (v, r') => if acc = [] then run f (first v) r' else if 9 < acc.length + 1 then false else run f (acc ++ [v]) r'

/-- The bytes are just these arcs' subidentifiers. -/
def Dec : List Int → List Int → Prop
  | l, [] => l = []
  | l, v :: vs => ∃ b r r', l = b :: r ∧ b ≠ 128 ∧ sub 0 l = some (v, r') ∧ Dec r' vs

theorem run_dec : ∀ (f : Nat) (acc l : List Int), acc ≠ [] → run f acc l = true → ∃ vs, Dec l vs ∧ (acc ++ vs = T1 ∨ acc ++ vs = T2)
  | f, acc, [], _, h => by
    refine ⟨[], rfl, ?_⟩
    have h' : final acc = true := by cases f <;> exact h
    simpa [final] using h'
  | 0, _, _ :: _, _, h => by cases h
  | f + 1, acc, b :: r, hne, h => by
    rw [run] at h
    split at h
    · cases h
    · rename_i hb
      split at h
      · cases h
      · rename_i v r' hs
        split at h
        · cases h
        · obtain ⟨vs, h1, h2⟩ := run_dec f (acc ++ [v]) r' (by simp) h
          exact ⟨v :: vs, ⟨b, r, r', rfl, hb, hs, h1⟩, by simpa [List.append_assoc] using h2⟩

theorem sub_ge : ∀ (l : List Int) (u v : Int) (r : List Int), (∀ b ∈ l, 0 ≤ b ∧ b < 256) → 0 ≤ u → sub u l = some (v, r) → u * 128 ≤ v
  | [], _, _, _, _, _, h => by cases h
  | b :: t, u, v, r, hb, hu, h => by
    rw [sub] at h
    have hb0 := hb b (by simp)
    split at h
    · cases h
    · split at h
      · simp at h
        omega
      · have := sub_ge t (u * 128 + b % 128) v r (fun x hx => hb x (by simp [hx])) (by omega) h
        omega

theorem sub_bytes : ∀ (l : List Int) (u v : Int) (r : List Int), (∀ b ∈ l, 0 ≤ b ∧ b < 256) → sub u l = some (v, r) → ∀ b ∈ r, 0 ≤ b ∧ b < 256
  | [], _, _, _, _, h => by cases h
  | b :: t, u, v, r, hb, h => by
    rw [sub] at h
    split at h
    · cases h
    · split at h
      · simp at h
        obtain ⟨_, rfl⟩ := h
        exact fun x hx => hb x (by simp [hx])
      · exact sub_bytes t _ v r (fun x hx => hb x (by simp [hx])) h

/-- An arc below 128 is one byte. -/
theorem sub_small {b : Int} {r : List Int} {v : Int} {r' : List Int} (hb : ∀ x ∈ b :: r, 0 ≤ x ∧ x < 256) (hne : b ≠ 128) (h : sub 0 (b :: r) = some (v, r')) (hv : v < 128) : b = v ∧ r' = r := by
  have hb0 := hb b (by simp)
  rw [sub] at h
  rw [if_neg (by omega)] at h
  split at h
  · simp at h
    exact ⟨by omega, h.2.symm⟩
  · have := sub_ge r (0 * 128 + b % 128) v r' (fun x hx => hb x (by simp [hx])) (by omega) h
    omega

/-- 3704 is the bytes 156, 120. -/
theorem sub_3704 {b : Int} {r r' : List Int} (hb : ∀ x ∈ b :: r, 0 ≤ x ∧ x < 256) (hne : b ≠ 128) (h : sub 0 (b :: r) = some (3704, r')) : b = 156 ∧ r = 120 :: r' := by
  have hb0 := hb b (by simp)
  rw [sub, if_neg (by omega)] at h
  split at h
  · simp at h
    omega
  · cases r with
    | nil => cases h
    | cons c t =>
      have hc0 := hb c (by simp)
      rw [sub, if_neg (by omega)] at h
      split at h
      · simp at h
        exact ⟨by omega, by rw [h.2]; congr 1; omega⟩
      · have := sub_ge t _ 3704 r' (fun x hx => hb x (by simp [hx])) (by omega) h
        omega

theorem Dec_small {l : List Int} {v : Int} {vs : List Int} (hb : ∀ x ∈ l, 0 ≤ x ∧ x < 256) (h : Dec l (v :: vs)) (hv : v < 128) : ∃ l', l = v :: l' ∧ Dec l' vs ∧ ∀ x ∈ l', 0 ≤ x ∧ x < 256 := by
  obtain ⟨b, r, r', rfl, hne, hs, hd⟩ := h
  obtain ⟨rfl, rfl⟩ := sub_small hb hne hs hv
  exact ⟨r', rfl, hd, fun x hx => hb x (by simp [hx])⟩

theorem Dec_3704 {l : List Int} {vs : List Int} (hb : ∀ x ∈ l, 0 ≤ x ∧ x < 256) (h : Dec l (3704 :: vs)) : ∃ l', l = 156 :: 120 :: l' ∧ Dec l' vs ∧ ∀ x ∈ l', 0 ≤ x ∧ x < 256 := by
  obtain ⟨b, r, r', rfl, hne, hs, hd⟩ := h
  obtain ⟨rfl, rfl⟩ := sub_3704 hb hne hs
  exact ⟨r', rfl, hd, fun x hx => hb x (by simp [hx])⟩

theorem Dec_tail {l : List Int} {k : Int} (hk : k < 128) (hb : ∀ x ∈ l, 0 ≤ x ∧ x < 256) (h : Dec l [6, 1, 4, 1, 3704, 3, k]) : l = [6, 1, 4, 1, 156, 120, 3, k] := by
  obtain ⟨l, rfl, h, hb⟩ := Dec_small hb h (by omega)
  obtain ⟨l, rfl, h, hb⟩ := Dec_small hb h (by omega)
  obtain ⟨l, rfl, h, hb⟩ := Dec_small hb h (by omega)
  obtain ⟨l, rfl, h, hb⟩ := Dec_small hb h (by omega)
  obtain ⟨l, rfl, h, hb⟩ := Dec_3704 hb h
  obtain ⟨l, rfl, h, hb⟩ := Dec_small hb h (by omega)
  obtain ⟨l, rfl, h, hb⟩ := Dec_small hb h hk
  rw [Dec] at h
  rw [h]

theorem run_true {l : List Int} (hb : ∀ x ∈ l, 0 ≤ x ∧ x < 256) (f : Nat) (h : run f [] l = true) : l = C1 ∨ l = C2 := by
  cases l with
  | nil =>
    have h' : final [] = true := by cases f <;> exact h
    exact absurd h' (by decide)
  | cons b r =>
    cases f with
    | zero => cases h
    | succ f =>
      rw [run] at h
      split at h
      · cases h
      · rename_i hne
        split at h
        · cases h
        · rename_i v r' hs
          rw [if_pos rfl] at h
          have hb' := sub_bytes _ _ _ _ hb hs
          obtain ⟨vs, hd, ht⟩ := run_dec f (first v) r' (by unfold first; split <;> (try split) <;> simp) h
          have key : v = 43 ∧ ∃ k : Int, k < 128 ∧ vs = [6, 1, 4, 1, 3704, 3, k] ∧ (k = 1 ∨ k = 2) := by
            unfold first at ht
            split at ht
            · simp [T1, T2] at ht
            · split at ht
              · simp [T1, T2] at ht
                rcases ht with ⟨h1, h2⟩ | ⟨h1, h2⟩
                · exact ⟨by omega, 1, by omega, h2, .inl rfl⟩
                · exact ⟨by omega, 2, by omega, h2, .inr rfl⟩
              · simp [T1, T2] at ht
          obtain ⟨rfl, k, hk, rfl, hk2⟩ := key
          obtain ⟨rfl, rfl⟩ := sub_small hb hne hs (by omega)
          have := Dec_tail hk hb' hd
          subst this
          rcases hk2 with rfl | rfl
          · exact .inl rfl
          · exact .inr rfl

theorem run_C1 : run 9 [] C1 = true := by decide
theorem run_C2 : run 9 [] C2 = true := by decide

/-- THE PLAIN LAW: the content holds the arcs asked for just if it is one of the two byte strings. -/
theorem run_is {l : List Int} (hb : ∀ x ∈ l, 0 ≤ x ∧ x < 256) : run l.length [] l = (decide (l = C1) || decide (l = C2)) := by
  by_cases h1 : l = C1
  · subst h1; exact run_C1
  · by_cases h2 : l = C2
    · subst h2; exact run_C2
    · cases h : run l.length [] l with
      | false => simp [h1, h2]
      | true =>
        rcases run_true hb _ h with e | e
        · exact absurd e h1
        · exact absurd e h2

end Go.Proofs.Qxb6617602a

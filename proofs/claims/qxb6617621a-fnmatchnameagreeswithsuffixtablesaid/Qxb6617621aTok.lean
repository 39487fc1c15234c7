/-
  THE WALKS OF 'has', 'matches', 'tokTakes'.
-/
import Derived.Test.Qxb6617621aRows
import Derived.Test.Qxb6617621aPlain
import Derived.WalkKit
import Derived.WalkSpells
import Derived.Laws.BitsAllLaws
namespace Go.Proofs.Qxb6617621a
open Go.RowKit

/-- A TOKEN's FIELDS. -/
structure Tk where
  k : Int
  b : Int
  s0 : Int
  s1 : Int
  s2 : Int
  s3 : Int
  d : Bool

def Tk.word (t : Tk) (q : Int) : Int := if q = 0 then t.s0 else if q = 1 then t.s1 else if q = 2 then t.s2 else t.s3
def Tk.bit (t : Tk) (c : Int) : Bool := decide ((t.word (c / 64)).toNat / 2 ^ (c % 64).toNat % 2 = 1)
def Tk.takes (t : Tk) (c : Int) : Bool := if t.k = 0 then t.b == c else if t.k = 1 then true else if t.k = 4 then t.bit c else false
def Tk.ok (t : Tk) : Prop := (0 ≤ t.s0 ∧ t.s0 < 18446744073709551616) ∧ (0 ≤ t.s1 ∧ t.s1 < 18446744073709551616) ∧ (0 ≤ t.s2 ∧ t.s2 < 18446744073709551616) ∧ (0 ≤ t.s3 ∧ t.s3 < 18446744073709551616)

theorem ret_bool {a b : Bool} (h : a = b) : Ending.returned (.bool a) = .returned (.bool b) := by rw [h]

theorem pow_small {i : Nat} (h : i < 64) : 2 ^ i < 18446744073709551616 := Nat.lt_of_lt_of_le (Nat.pow_lt_pow_right (by omega) h) (by decide)
theorem int_pow (i : Nat) : ((2 : Int) ^ i) = ((2 ^ i : Nat) : Int) := by simp

theorem bit_has {s c : Int} (hs : 0 ≤ s ∧ s < 18446744073709551616) : (bits .and .u64 s (IntKind.u64.wrap (2 ^ (c % 64).toNat)) != 0) = decide (s.toNat / 2 ^ (c % 64).toNat % 2 = 1) := by
  obtain ⟨i, hi⟩ : ∃ i, i = (c % 64).toNat := ⟨_, rfl⟩
  have hi64 : i < 64 := by omega
  rw [← hi]
  have hp := pow_small hi64
  have hpos : 0 < 2 ^ i := Nat.pow_pos (by omega)
  rw [int_pow, IntKind.wrap_u64, Int.emod_eq_of_lt (by omega) (by omega), u64_and s _ hs.1 hs.2 (by omega) (by omega)]
  rw [Int.toNat_natCast, nat_bit]
  generalize 2 ^ i = P at *
  have h01 : s.toNat / P % 2 = 0 ∨ s.toNat / P % 2 = 1 := by omega
  rcases h01 with h | h <;> rw [h]
  · simp
  · simp; omega

theorem and63 {c : Int} (h : 0 ≤ c ∧ c < 256) : bits .and .u8 c 63 = c % 64 := by
  rw [u8_and c 63 h.1 h.2 (by omega) (by omega)]
  have : (63 : Int).toNat = 63 := rfl
  rw [this, nat_mask6]
  omega

set_option maxRecDepth 100000 in
theorem has_at (g off : Nat) (s c : Int) (q : Nat) (hq : c / 64 = (q : Int)) (hq3 : q < 4) (hc : 0 ≤ c ∧ c < 256) (hs : 0 ≤ s ∧ s < 18446744073709551616) (w : World) (hcell : w.cell? ⟨g, off + q, none⟩ = some (.int .u64 s)) :
    Calls Try.prog 14 #[.pointer (some ⟨g, off, none⟩), .int .u8 c] w fun e w' => e = .returned (.bool (decide (s.toNat / 2 ^ (c % 64).toNat % 2 = 1))) ∧ w' = w := by
  go_enter Try.func14, Try.ntmps14
  go_wp2
  go_ret
  exact ⟨ret_bool (bit_has hs), rfl⟩

theorem bit_takes {s : Int} (hs : 0 ≤ s ∧ s < 18446744073709551616) (i : Nat) : (bits .and .u64 (s / 2 ^ i) 1 == 1) = decide (s.toNat / 2 ^ i % 2 = 1) := by
  rw [int_pow]
  obtain ⟨n, rfl⟩ := Int.eq_ofNat_of_zero_le hs.1
  have e : ((n : Int) / ((2 ^ i : Nat) : Int)) = ((n / 2 ^ i : Nat) : Int) := by simp
  have hle : n / 2 ^ i ≤ n := Nat.div_le_self _ _
  rw [e, Int.toNat_natCast]
  generalize n / 2 ^ i = d at *
  rw [u64_and _ 1 (by omega) (by omega) (by omega) (by omega), Int.toNat_natCast]
  have : (1 : Int).toNat = 1 := rfl
  rw [this, nat_mask1, Bool.eq_iff_iff]
  simp only [beq_iff_eq, decide_eq_true_eq]
  omega

theorem takes_4 {t : Tk} {c : Int} (hk : t.k = 4) : t.takes c = t.bit c := by simp [Tk.takes, hk]

set_option maxRecDepth 100000 in
theorem takes_set (t : Tk) (c : Int) (q : Nat) (hq : c / 64 = (q : Int)) (hq3 : q < 4) (hc : 0 ≤ c ∧ c < 256) (ht : t.ok) (hk : t.k = 4) (w : World) :
    Calls Try.prog 9 #[.agg #[.int .i64 t.k, .int .u8 t.b, .int .u64 t.s0, .int .u64 t.s1, .int .u64 t.s2, .int .u64 t.s3, .bool t.d], .int .u8 c] w fun e w' => e = .returned (.bool (t.takes c)) ∧ ∃ o, w' = w.alloc o := by
  have h0 : (t.k == 0) = false := by simp [hk]
  have h1 : (t.k == 1) = false := by simp [hk]
  have h4 : (t.k == 4) = true := by simp [hk]
  have ha := and63 hc
  have HT := takes_4 (c := c) hk
  rw [HT]
  obtain ⟨R, hR⟩ : ∃ R, R = t.bit c := ⟨_, rfl⟩
  rw [← hR]
  have HR : Hid (R = t.bit c) := hR
  clear hk HT hR
  obtain rfl | rfl | rfl | rfl : q = 0 ∨ q = 1 ∨ q = 2 ∨ q = 3 := by omega
  · go_enter Try.func9, Try.ntmps9
    go_wp2
    go_ret
    exact ⟨ret_bool (by rw [HR.out, bit_takes ht.1]; simp [Tk.bit, Tk.word, hq]), _, rfl⟩
  · go_enter Try.func9, Try.ntmps9
    go_wp2
    go_ret
    exact ⟨ret_bool (by rw [HR.out, bit_takes ht.2.1]; simp [Tk.bit, Tk.word, hq]), _, rfl⟩
  · go_enter Try.func9, Try.ntmps9
    go_wp2
    go_ret
    exact ⟨ret_bool (by rw [HR.out, bit_takes ht.2.2.1]; simp [Tk.bit, Tk.word, hq]), _, rfl⟩
  · go_enter Try.func9, Try.ntmps9
    go_wp2
    go_ret
    exact ⟨ret_bool (by rw [HR.out, bit_takes ht.2.2.2]; simp [Tk.bit, Tk.word, hq]), _, rfl⟩

set_option maxRecDepth 100000 in
theorem takes_any (t : Tk) (c : Int) (hc : 0 ≤ c ∧ c < 256) (ht : t.ok) (w : World) :
    Calls Try.prog 9 #[.agg #[.int .i64 t.k, .int .u8 t.b, .int .u64 t.s0, .int .u64 t.s1, .int .u64 t.s2, .int .u64 t.s3, .bool t.d], .int .u8 c] w fun e w' => e = .returned (.bool (t.takes c)) ∧ ∃ o, w' = w.alloc o := by
  by_cases hk4 : t.k = 4
  · exact takes_set t c (c / 64).toNat (by omega) (by omega) hc ht hk4 w
  · obtain ⟨R, hR⟩ : ∃ R, R = t.takes c := ⟨_, rfl⟩
    rw [← hR]
    have HR : Hid (R = t.takes c) := hR
    clear hR
    by_cases hk0 : t.k = 0
    · have h0 : (t.k == 0) = true := by simp [hk0]
      have e : R = (t.b == c) := by rw [HR.out]; simp [Tk.takes, hk0]
      have E : Hid (R = (t.b == c)) := e
      clear e hk0 hk4
      go_enter Try.func9, Try.ntmps9
      go_wp2
      go_ret
      exact ⟨ret_bool (by rw [E.out]), _, rfl⟩
    · by_cases hk1 : t.k = 1
      · have h0 : (t.k == 0) = false := by simp [hk1]
        have h1 : (t.k == 1) = true := by simp [hk1]
        have e : R = true := by rw [HR.out]; simp [Tk.takes, hk1]
        have E : Hid (R = true) := e
        clear e hk0 hk1 hk4
        go_enter Try.func9, Try.ntmps9
        go_wp2
        go_ret
        exact ⟨ret_bool (by rw [E.out]), _, rfl⟩
      · have h0 : (t.k == 0) = false := by simp [hk0]
        have h1 : (t.k == 1) = false := by simp [hk1]
        have h4 : (t.k == 4) = false := by simp [hk4]
        have e : R = false := by rw [HR.out]; simp [Tk.takes, hk0, hk1, hk4]
        have E : Hid (R = false) := e
        clear e hk0 hk1 hk4
        go_enter Try.func9, Try.ntmps9
        go_wp2
        go_ret
        exact ⟨ret_bool (by rw [E.out]), _, rfl⟩

theorem word_cell (w : World) (t : Tk) (q : Nat) (hq : q < 4) : (w.alloc (.cells #[.int .i64 t.k, .int .u8 t.b, .int .u64 t.s0, .int .u64 t.s1, .int .u64 t.s2, .int .u64 t.s3, .bool t.d] 30)).cell? ⟨w.heap.size, 2 + q, none⟩ = some (.int .u64 (t.word q)) := by
  obtain rfl | rfl | rfl | rfl : q = 0 ∨ q = 1 ∨ q = 2 ∨ q = 3 := by omega
  all_goals
    rw [World.cell?_alloc_new]
    simp [Tk.word]
theorem word_ok {t : Tk} (h : t.ok) (q : Int) : 0 ≤ t.word q ∧ t.word q < 18446744073709551616 := by
  unfold Tk.word
  obtain ⟨h0, h1, h2, h3⟩ := h
  split
  · exact h0
  · split
    · exact h1
    · split
      · exact h2
      · exact h3

set_option maxRecDepth 100000 in
theorem matches_any (t : Tk) (c : Int) (hc : 0 ≤ c ∧ c < 256) (ht : t.ok) (w : World) :
    Calls Try.prog 13 #[.agg #[.int .i64 t.k, .int .u8 t.b, .int .u64 t.s0, .int .u64 t.s1, .int .u64 t.s2, .int .u64 t.s3, .bool t.d], .int .u8 c] w fun e w' => e = .returned (.bool (t.takes c)) ∧ ∃ o, w' = w.alloc o := by
  obtain ⟨R, hR⟩ : ∃ R, R = t.takes c := ⟨_, rfl⟩
  rw [← hR]
  have HR : Hid (R = t.takes c) := hR
  clear hR
  by_cases hk4 : t.k = 4
  · have h0 : (t.k == 0) = false := by simp [hk4]
    have h1 : (t.k == 1) = false := by simp [hk4]
    have h4 : (t.k == 4) = true := by simp [hk4]
    have e : R = t.bit c := by rw [HR.out]; exact takes_4 hk4
    have E : Hid (R = t.bit c) := e
    have hwc := word_cell w t (c / 64).toNat (by omega)
    rw [show (((c / 64).toNat : Nat) : Int) = c / 64 by omega] at hwc
    clear e hk4
    go_enter Try.func13, Try.ntmps13
    go_wp2_with fail
    refine (has_at w.heap.size 2 (t.word (c / 64)) c (c / 64).toNat (by omega) (by omega) hc (word_ok ht _) _ hwc).mono ?_
    rintro e w' ⟨rfl, rfl⟩
    go_wp2
    go_ret
    exact ⟨ret_bool (by rw [E.out]; rfl), _, rfl⟩
  · by_cases hk0 : t.k = 0
    · have h0 : (t.k == 0) = true := by simp [hk0]
      have e : R = (t.b == c) := by rw [HR.out]; simp [Tk.takes, hk0]
      have E : Hid (R = (t.b == c)) := e
      clear e hk0 hk4
      go_enter Try.func13, Try.ntmps13
      go_wp2
      go_ret
      exact ⟨ret_bool (by rw [E.out]), _, rfl⟩
    · by_cases hk1 : t.k = 1
      · have h0 : (t.k == 0) = false := by simp [hk1]
        have h1 : (t.k == 1) = true := by simp [hk1]
        have e : R = true := by rw [HR.out]; simp [Tk.takes, hk1]
        have E : Hid (R = true) := e
        clear e hk0 hk1 hk4
        go_enter Try.func13, Try.ntmps13
        go_wp2
        go_ret
        exact ⟨ret_bool (by rw [E.out]), _, rfl⟩
      · have h0 : (t.k == 0) = false := by simp [hk0]
        have h1 : (t.k == 1) = false := by simp [hk1]
        have h4 : (t.k == 4) = false := by simp [hk4]
        have e : R = false := by rw [HR.out]; simp [Tk.takes, hk0, hk1, hk4]
        have E : Hid (R = false) := e
        clear e hk0 hk1 hk4
        go_enter Try.func13, Try.ntmps13
        go_wp2
        go_ret
        exact ⟨ret_bool (by rw [E.out]), _, rfl⟩
end Go.Proofs.Qxb6617621a

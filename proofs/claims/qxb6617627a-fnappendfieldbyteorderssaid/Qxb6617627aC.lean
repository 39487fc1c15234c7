/-
  ZZAppendField, fieldByBytes, ZZFieldByBytes; the digits.
-/
import Derived.Test.Qxb6617627aB
import Derived.Laws.BitsAllLaws
namespace Go.Proofs.Qxb6617627a
open Go.RowKit

set_option maxRecDepth 100000 in
theorem zappend_any (n : Nat) (le : Bool) (o d : Int) (B : Nat) (v : Value) (n0 : Nat) (xs : List Value) (x : Int) (w : World) (h1 : 1 ≤ n) (h8 : n ≤ 8) (hn0 : n0 ≤ 1048576) (hB : B ≤ w.heap.size) (hown : w.ownsRow B 5 1 v n0 xs) :
    Calls Try.prog 8 #[.int .i64 n, .bool le, .int .i64 o, .int .i64 d, v, .int .u64 x] w fun e w' =>
      ∃ g cap, e = .returned (.slice (some ⟨g, 0, none⟩) (n0 + n) cap) ∧ w'.ownsRow B 5 1 (.slice (some ⟨g, 0, none⟩) (n0 + n) cap) (n0 + n) (xs ++ cells n (fun j => dg x n (sg n le j))) ∧ Below B w w' := by
  go_enter Try.func8, Try.ntmps8
  go_wp2_with (first | (go_at_call 11; refine (append_any n le o d B v n0 xs x _ h1 h8 hn0 hB hown).mono ?_; rintro e w' ⟨g, cap, rfl, h⟩))
  go_ret
  exact ⟨g, cap, rfl, h⟩

/-- What the first i bytes say. -/
def hi (x : Int) (n i : Nat) : Int := x / 2 ^ (8 * (n - i))

theorem dg_range (x : Int) (n i : Nat) : 0 ≤ dg x n i ∧ dg x n i < 256 := by unfold dg; omega

theorem hi_zero {x : Int} {n : Nat} (h0 : 0 ≤ x) (h : x < 2 ^ (8 * n)) : hi x n 0 = 0 := by
  unfold hi
  exact Int.ediv_eq_zero_of_lt h0 (by simpa using h)
theorem hi_full {x : Int} {n : Nat} : hi x n n = x := by simp [hi]
theorem hi_nonneg {x : Int} {n i : Nat} (h0 : 0 ≤ x) : 0 ≤ hi x n i := Int.ediv_nonneg h0 (Int.pow_nonneg (by decide))

theorem hi_succ {x : Int} {n i : Nat} (hi' : i < n) : hi x n (i + 1) = hi x n i * 256 + dg x n i := by
  unfold hi dg
  have e1 : n - 1 - i = n - (i + 1) := by omega
  have e2 : 8 * (n - i) = 8 * (n - (i + 1)) + 8 := by omega
  rw [e1, e2, Int.pow_add, show (2 : Int) ^ 8 = 256 by decide]
  rw [← Int.ediv_ediv_of_nonneg (Int.pow_nonneg (by decide))]
  omega

theorem hi_le {x : Int} {n i : Nat} (h0 : 0 ≤ x) : hi x n i ≤ x := Int.ediv_le_self _ h0

theorem top_lt {x : Int} {n : Nat} (h1 : 1 ≤ n) (h2 : n ≤ 8) (h : x ≤ top n) : x < 2 ^ (8 * n) := by
  have : n = 1 ∨ n = 2 ∨ n = 3 ∨ n = 4 ∨ n = 5 ∨ n = 6 ∨ n = 7 ∨ n = 8 := by omega
  rcases this with rfl | rfl | rfl | rfl | rfl | rfl | rfl | rfl <;> simp [top] at h ⊢ <;> omega

theorem or_step {a b : Int} (ha : 0 ≤ a) (hb : 0 ≤ b ∧ b < 256) (h : a * 256 + b < 18446744073709551616) : bits .or .u64 (a * 256) b = a * 256 + b := by
  rw [u64_or _ _ (by omega) (by omega) (by omega) (by omega), nat_join 8 _ _ (by omega) (by omega)]
  omega

set_option maxRecDepth 100000 in
set_option maxHeartbeats 1000000 in
theorem read_any (n : Nat) (le : Bool) (o d : Int) (g off m cap : Nat) (x : Int) (w : World) (h8 : n ≤ 8) (hm : n ≤ m) (h0 : 0 ≤ x) (hx : x < 2 ^ (8 * n)) (hx64 : x < 18446744073709551616) (hg : g < w.heap.size)
    (hc : ∀ j, j < n → w.cell? ⟨g, off + j, none⟩ = some (.int .u8 (dg x n (sg n le j)))) :
    Calls Try.prog 12 #[.agg #[.int .i64 n, .bool le, .int .i64 o, .int .i64 d], .slice (some ⟨g, off, none⟩) m cap] w fun e w' => e = .returned (.int .u64 x) ∧ Below w.heap.size w w' := by
  go_enter Try.func12, Try.ntmps12
  go_wp2
  go_loopg [5, 9] n (fun gk a u wr => ∃ k, gk + k = n ∧ a = .int .u64 (hi x n k) ∧ u = .int .i64 k ∧ Box wr w.heap.size n le o d ∧ Below w.heap.size w wr)
  case atStart => exact ⟨0, rfl, by rw [hi_zero h0 hx], rfl, box1 _ _ _ _ _, (Below.refl _ _).alloc (Nat.le_refl _) _⟩
  case round =>
    obtain ⟨k, hgk, rfl, rfl, ⟨b0, b1, b2, b3⟩, hbel⟩ := hrel
    by_cases hk : k < n
    · obtain ⟨q, hq⟩ : ∃ q, q = sg n le k := ⟨_, rfl⟩
      have hqn : q < n := by have := sg_lt le hk; omega
      have c1 := hc q hqn
      rw [hq, sg_sg le hk, ← hq] at c1
      have c2 : ∀ ob, (wr.alloc ob).cell? ⟨g, off + q, none⟩ = some (.int .u8 (dg x n k)) := fun ob => ac ((hbel.cell (p := ⟨g, off + q, none⟩) hg).trans c1)
      have hb := dg_range x n k
      have hs := hi_succ (x := x) hk
      have hl := hi_le (n := n) (i := k + 1) h0
      have hp := hi_nonneg (n := n) (i := k) h0
      obtain ⟨a, ha⟩ : ∃ a, a = hi x n k := ⟨_, rfl⟩
      obtain ⟨b, hbb⟩ : ∃ b, b = dg x n k := ⟨_, rfl⟩
      rw [← ha, ← hbb] at hs
      rw [← ha] at hp
      rw [← hbb] at hb c2
      rw [← ha]
      have HQ := (show Hid (q = sg n le k) from hq)
      have HS := (show Hid (hi x n (k + 1) = a * 256 + b) from hs)
      have n0 : (q : Int) < (m : Int) := by omega
      have n1 : (k : Int) < (n : Int) := by omega
      have n2 : IntKind.i64.wrap ((k : Int) + 1) = (k : Int) + 1 := by rw [IntKind.wrap_i64]; omega
      have n3 : bits .or .u64 (a * 256) b = a * 256 + b := or_step hp hb (by omega)
      have n4 : IntKind.u64.wrap (a * 256) = a * 256 := by rw [IntKind.wrap_u64]; omega
      clear hs hl hq c1 ha hbb
      go_wp2_with (first | (go_at_call 13; refine (sig_any n le o d k hk h8 _).mono ?_; rintro e w' ⟨rfl, ob, rfl⟩; rw [← HQ.out]))
      go_roundg (gk - 1)
      case measure => omega
      case rel =>
        go_light
        exact ⟨k + 1, by omega, by rw [HS.out], by simp, ⟨ac b0, ac b1, ac b2, ac b3⟩, hbel.alloc hbel.size _⟩
    · have hkn : k = n := by omega
      subst hkn
      have n1 : ¬ ((k : Int) < (k : Int)) := by omega
      rw [hi_full]
      go_wp2
      go_ret
      exact ⟨rfl, hbel⟩

set_option maxRecDepth 100000 in
theorem zread_any (n : Nat) (le : Bool) (o d : Int) (g off m cap : Nat) (x : Int) (w : World) (h8 : n ≤ 8) (hm : n ≤ m) (h0 : 0 ≤ x) (hx : x < 2 ^ (8 * n)) (hx64 : x < 18446744073709551616) (hg : g < w.heap.size)
    (hc : ∀ j, j < n → w.cell? ⟨g, off + j, none⟩ = some (.int .u8 (dg x n (sg n le j)))) :
    Calls Try.prog 9 #[.int .i64 n, .bool le, .int .i64 o, .int .i64 d, .slice (some ⟨g, off, none⟩) m cap] w fun e w' => e = .returned (.int .u64 x) ∧ Below w.heap.size w w' := by
  go_enter Try.func9, Try.ntmps9
  go_wp2_with (first | (go_at_call 12; refine (read_any n le o d g off m cap x _ h8 hm h0 hx hx64 hg hc).mono ?_; rintro e w' ⟨rfl, h⟩))
  go_ret
  exact ⟨rfl, h⟩
end Go.Proofs.Qxb6617627a

/-
  THE LAW 'FnAppendFieldByteOrders': the walk.
-/
import Derived.Test.Qxb6617627aD
namespace Go.Proofs.Qxb6617627a
open Go.RowKit

set_option maxRecDepth 100000 in
set_option maxHeartbeats 1000000 in
theorem orders_any (n : Nat) (o d : Int) (ao : Option Addr) (b off n0 cap : Nat) (z : Nat → Int) (x : Int) (w : World) (h1 : 1 ≤ n) (h8 : n ≤ 8) (h0 : 0 ≤ x) (hx : x ≤ top n) (hx64 : x < 18446744073709551616) (hn0 : n0 ≤ 1048576) (hsrc : Src w ao b off n0 z) :
    Calls Try.prog 4 #[.int .i64 n, .int .i64 o, .int .i64 d, .slice ao n0 cap, .int .u64 x] w fun e w' => e = .returned (.bool true) ∧ Below w.heap.size w w' := by
  have hlt := top_lt h1 h8 hx
  have d1 : decide ((1048576 : Int) < (n0 : Int)) = false := decide_eq_false (by omega)
  have d2 : decide ((n : Int) < 1) = false := decide_eq_false (by omega)
  have d3 : decide ((8 : Int) < (n : Int)) = false := decide_eq_false (by omega)
  have d4 : decide (top n < x) = false := decide_eq_false (by omega)
  have n1 : IntKind.i64.wrap ((n0 : Int) + (n : Int)) = (n0 : Int) + (n : Int) := by rw [IntKind.wrap_i64]; omega
  go_enter Try.func4, Try.ntmps4
  go_wp2_with (first
    | (go_at_call 6; refine (mask_any n h1 h8 _).mono ?_; rintro e w' ⟨rfl, hw⟩; obtain rfl := hw.symm)
    | (go_at_call 7; refine (clone_any ao b off n0 cap z w2 hn0 (hsrc.below (Nat.le_refl _) (hbel1.trans hbel2))).mono ?_; rintro e w3 ⟨v3, rfl, hown3, hbel3⟩)
    | (go_at_call 8; refine (zappend_any n true o d w2.heap.size v3 n0 _ x w3 h1 h8 hn0 hbel3.size hown3).mono ?_; rintro e w4 ⟨g2, cap2, rfl, hown4, hbel4⟩)
    | (go_at_call 7; refine (clone_any ao b off n0 cap z w hn0 hsrc).mono ?_; rintro e w1 ⟨v1, rfl, hown1, hbel1⟩)
    | (go_at_call 8; refine (zappend_any n false o d w.heap.size v1 n0 _ x w1 h1 h8 hn0 hbel1.size hown1).mono ?_; rintro e w2 ⟨g1, cap1, rfl, hown2, hbel2⟩)
    | (go_at_call 10; go_in))
  have hbel24 := hbel3.trans hbel4
  have hown2' := owns_below hown2 hbel24
  have hbel14 : Below w.heap.size w w4 := (hbel1.trans hbel2).trans (hbel24.mono (hbel1.trans hbel2).size)
  obtain ⟨_, hg1, hcap1⟩ := own_lt hown2'
  obtain ⟨_, hg2, hcap2⟩ := own_lt hown4
  clear hown1 hown2 hown3 hbel1 hbel2 hbel3 hbel4 hbel24
  go_loopg [14] n0 (fun gk u wr => ∃ k, gk + k = n0 ∧ u = .int .i64 k ∧ Below w4.heap.size w4 wr)
  case atStart => exact ⟨0, rfl, rfl, Below.refl _ _⟩
  case round =>
    obtain ⟨k, hgk, rfl, hbel⟩ := hrel
    by_cases hk : k < n0
    · obtain rfl := hsrc.at_ (by omega)
      have c0 := ((hsrc.below (Nat.le_refl _) hbel14).below (Nat.le_refl _) hbel).cell k hk
      have c1 := (hbel.cell (p := ⟨g1, k, none⟩) hg1).trans (row_left hown2' hk)
      have c2 := (hbel.cell (p := ⟨g2, k, none⟩) hg2).trans (row_left hown4 hk)
      have n2 : (k : Int) < (n0 : Int) := by omega
      have n3 : IntKind.i64.wrap ((k : Int) + 1) = (k : Int) + 1 := by rw [IntKind.wrap_i64]; omega
      have n4 : (k : Int) < (n0 : Int) + (n : Int) := by omega
      go_wp2
      go_quiet (fail)
      go_wp2
      go_roundg (gk - 1)
      case measure => omega
      case rel =>
        go_light
        exact ⟨k + 1, by omega, by simp, below_drewN hbel _⟩
    · have hkn : k = n0 := by omega
      subst hkn
      have n2 : ¬ ((k : Int) < (k : Int)) := by omega
      go_wp2
      obtain ⟨w5, rfl⟩ : ∃ w5 : World, w5 = wr := ⟨_, rfl⟩
      go_loopg [15, 16] n (fun gk a u wr => ∃ j, gk + j = n ∧ a = .int .u64 (hi x n j) ∧ u = .int .i64 j ∧ Below w4.heap.size w4 wr)
      case atStart => exact ⟨0, rfl, by rw [hi_zero h0 hlt], rfl, hbel⟩
      case round =>
        clear hbel
        obtain ⟨j, hgj, rfl, rfl, hbel⟩ := hrel
        by_cases hj : j < n
        · have c0 := (hbel.cell (p := ⟨g1, k + j, none⟩) hg1).trans (row_right hown2' hj)
          have c1 := (hbel.cell (p := ⟨g2, k + j, none⟩) hg2).trans (row_right hown4 hj)
          have c2 := (hbel.cell (p := ⟨g1, k + (n - 1 - j), none⟩) hg1).trans (row_right hown2' (j := n - 1 - j) (by omega))
          rw [show sg n false j = j from rfl] at c0
          rw [show sg n true j = n - 1 - j from rfl] at c1
          rw [show sg n false (n - 1 - j) = n - 1 - j from rfl] at c2
          have hb := dg_range x n j
          have hs := hi_succ (x := x) hj
          have hl := hi_le (n := n) (i := j + 1) h0
          have hp := hi_nonneg (n := n) (i := j) h0
          obtain ⟨a, ha⟩ : ∃ a, a = hi x n j := ⟨_, rfl⟩
          obtain ⟨y, hy⟩ : ∃ y, y = dg x n j := ⟨_, rfl⟩
          rw [← ha, ← hy] at hs
          rw [← ha] at hp
          rw [← hy] at hb c0
          rw [← ha]
          have HS := (show Hid (hi x n (j + 1) = a * 256 + y) from hs)
          have m2 : (j : Int) < (n : Int) := by omega
          have m3 : IntKind.i64.wrap ((j : Int) + 1) = (j : Int) + 1 := by rw [IntKind.wrap_i64]; omega
          have m4 : bits .or .u64 (a * 256) y = a * 256 + y := or_step hp hb (by omega)
          have m5 : IntKind.u64.wrap (a * 256) = a * 256 := by rw [IntKind.wrap_u64]; omega
          obtain ⟨p, hp'⟩ : ∃ p, p = k + j := ⟨_, rfl⟩
          obtain ⟨q, hq⟩ : ∃ q, q = k + (n - 1 - j) := ⟨_, rfl⟩
          rw [← hp'] at c0 c1
          rw [← hq] at c2
          have m6 : IntKind.i64.wrap ((k : Int) + (j : Int)) = (p : Int) := by rw [IntKind.wrap_i64]; omega
          have m7 : IntKind.i64.wrap ((k : Int) + (n : Int) - 1) = (k : Int) + (n : Int) - 1 := by rw [IntKind.wrap_i64]; omega
          have m8 : IntKind.i64.wrap ((k : Int) + (n : Int) - 1 - (j : Int)) = (q : Int) := by rw [IntKind.wrap_i64]; omega
          have m9 : (p : Int) < (k : Int) + (n : Int) := by omega
          have m10 : (q : Int) < (k : Int) + (n : Int) := by omega
          clear hs hl ha hy hp' hq
          go_wp2
          go_quiet (fail)
          go_wp2
          go_roundg (gk - 1)
          case measure => omega
          case rel =>
            go_light
            exact ⟨j + 1, by omega, by rw [HS.out], by simp, below_drewN hbel _⟩
        · have hjn : j = n := by omega
          subst hjn
          have m2 : ¬ ((j : Int) < (j : Int)) := by omega
          rw [hi_full]
          go_wp2
          go_ret
          exact ⟨rfl, hbel14.trans (hbel.mono hbel14.size)⟩
end Go.Proofs.Qxb6617627a

/-
  THE LAW 'FnAppendFieldReadsBack': the walk.
-/
import Derived.Test.Qxb6617627aC
import Derived.BigQuiet
import Derived.WalkSmall
namespace Go.Proofs.Qxb6617627a
open Go.RowKit

theorem own_lt {w : World} {B g N cap : Nat} {xs : List Value} (h : w.ownsRow B 5 1 (.slice (some ⟨g, 0, none⟩) N cap) N xs) : B ≤ g ∧ g < w.heap.size ∧ N ≤ cap := by
  obtain ⟨h1, h2⟩ := h.lt g rfl
  refine ⟨h1, h2, ?_⟩
  obtain ⟨_, ⟨h3, _⟩ | ⟨g', cap', _, e, _, _, h3, _⟩⟩ := h
  · cases h3
  · injection e with e1 e2 e3
    omega

/-- THE ROW BEHIND appendField. -/
theorem row_left {w : World} {B g n0 n cap : Nat} {z y : Nat → Int} (h : w.ownsRow B 5 1 (.slice (some ⟨g, 0, none⟩) (n0 + n) cap) (n0 + n) (cells n0 z ++ cells n y)) {i : Nat} (hi : i < n0) : w.cell? ⟨g, i, none⟩ = some (.int .u8 (z i)) := by
  rw [h.cellAt i (by omega), List.getElem?_append_left (by rw [cells_length]; exact hi), cells_get hi]
theorem row_right {w : World} {B g n0 n cap : Nat} {z y : Nat → Int} (h : w.ownsRow B 5 1 (.slice (some ⟨g, 0, none⟩) (n0 + n) cap) (n0 + n) (cells n0 z ++ cells n y)) {j : Nat} (hj : j < n) : w.cell? ⟨g, n0 + j, none⟩ = some (.int .u8 (y j)) := by
  rw [h.cellAt (n0 + j) (by omega), List.getElem?_append_right (by rw [cells_length]; omega), cells_length, Nat.add_sub_cancel_left, cells_get hj]

set_option maxRecDepth 100000 in
set_option maxHeartbeats 1000000 in
theorem back_any (n : Nat) (le : Bool) (o d : Int) (ao : Option Addr) (b off n0 cap : Nat) (z : Nat → Int) (x : Int) (w : World) (h1 : 1 ≤ n) (h8 : n ≤ 8) (h0 : 0 ≤ x) (hx : x ≤ top n) (hx64 : x < 18446744073709551616) (hn0 : n0 ≤ 1048576) (hsrc : Src w ao b off n0 z) :
    Calls Try.prog 3 #[.int .i64 n, .bool le, .int .i64 o, .int .i64 d, .slice ao n0 cap, .int .u64 x] w fun e w' => e = .returned (.bool true) ∧ Below w.heap.size w w' := by
  have hlt := top_lt h1 h8 hx
  have d1 : decide ((1048576 : Int) < (n0 : Int)) = false := decide_eq_false (by omega)
  have d2 : decide ((n : Int) < 1) = false := decide_eq_false (by omega)
  have d3 : decide ((8 : Int) < (n : Int)) = false := decide_eq_false (by omega)
  have d4 : decide (top n < x) = false := decide_eq_false (by omega)
  have n1 : IntKind.i64.wrap ((n0 : Int) + (n : Int)) = (n0 : Int) + (n : Int) := by rw [IntKind.wrap_i64]; omega
  go_enter Try.func3, Try.ntmps3
  go_wp2_with (first
    | (go_at_call 6; refine (mask_any n h1 h8 _).mono ?_; rintro e w' ⟨rfl, hw⟩; obtain rfl := hw.symm)
    | (go_at_call 7; refine (clone_any ao b off n0 cap z _ hn0 hsrc).mono ?_; rintro e w1 ⟨v, rfl, hown1, hbel1⟩)
    | (go_at_call 8; refine (zappend_any n le o d w.heap.size v n0 _ x _ h1 h8 hn0 hbel1.size hown1).mono ?_; rintro e w2 ⟨g, cap2, rfl, hown2, hbel2⟩)
    | (go_at_call 5; go_in))
  obtain ⟨hgB, hg, hcap⟩ := own_lt hown2
  have hbel12 := hbel1.trans hbel2
  go_loopg [15] n0 (fun gk u wr => ∃ k, gk + k = n0 ∧ u = .int .i64 k ∧ Below w2.heap.size w2 wr)
  case atStart => exact ⟨0, rfl, rfl, Below.refl _ _⟩
  case round =>
    obtain ⟨k, hgk, rfl, hbel⟩ := hrel
    by_cases hk : k < n0
    · obtain rfl := hsrc.at_ (by omega)
      have c0 := ((hsrc.below (Nat.le_refl _) hbel12).below (Nat.le_refl _) hbel).cell k hk
      have c1 := (hbel.cell (p := ⟨g, k, none⟩) hg).trans (row_left hown2 hk)
      have n2 : (k : Int) < (n0 : Int) := by omega
      have n3 : IntKind.i64.wrap ((k : Int) + 1) = (k : Int) + 1 := by rw [IntKind.wrap_i64]; omega
      have n4 : (k : Int) < (n0 : Int) + (n : Int) := by omega
      go_wp2
      go_quiet (fail)
      go_wp2
      go_roundg (gk - 1)
      case measure => omega
      case rel =>
        go_light
        exact ⟨k + 1, by omega, by simp, below_drewN hbel _⟩
    · have hkn : k = n0 := by omega
      subst hkn
      have n2 : ¬ ((k : Int) < (k : Int)) := by omega
      have n3 : k < cap2 := by omega
      have hc : ∀ j, j < n → wr.cell? ⟨g, k + j, none⟩ = some (.int .u8 (dg x n (sg n le j))) := fun j hj => (hbel.cell (p := ⟨g, k + j, none⟩) hg).trans (row_right hown2 hj)
      have n4 : (k : Int) ≤ (k : Int) + (n : Int) := by omega
      go_wp2_with (first
        | (go_at_call 9; refine (zread_any n le o d g k n (cap2 - k) x _ h8 (Nat.le_refl _) h0 hlt hx64 (Nat.lt_of_lt_of_le hg hbel.size) hc).mono ?_; rintro e w3 ⟨rfl, hbel3⟩))
      go_ret
      exact ⟨rfl, hbel12.trans ((hbel.mono hbel12.size).trans (hbel3.mono (Nat.le_trans hbel12.size hbel.size)))⟩
end Go.Proofs.Qxb6617627a

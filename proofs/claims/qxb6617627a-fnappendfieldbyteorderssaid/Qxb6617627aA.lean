/-
  THE CONTRACTS OF fieldMask, cloneBytes, significance.
-/
import Derived.Test.Qxb6617627aRows
import Derived.WalkKit
import Derived.Below
import Derived.Deep.OwnRows
import Derived.Deep.RegionHeld3
import Derived.Deep.Light
import Derived.Laws.OwnMore
import Derived.Outline
import Derived.Lib.SliceRun
namespace Go.Proofs.Qxb6617627a
open Go.RowKit

theorem Try.info5 : (Try.prog.info? 5).map (fun i => (i.zero, i.size, i.bytes)) = some (some (.int .u8 0), 1, 1) := by kernel_rfl

/-- The largest value of n bytes. -/
def top : Nat → Int
  | 1 => 255 | 2 => 65535 | 3 => 16777215 | 4 => 4294967295 | 5 => 1099511627775 | 6 => 281474976710655 | 7 => 72057594037927935 | _ => 18446744073709551615

theorem mask_any (n : Nat) (h1 : 1 ≤ n) (h2 : n ≤ 8) (w : World) : Calls Try.prog 6 #[.int .i64 n] w fun e w' => e = .returned (.int .u64 (top n)) ∧ w' = w := by
  have : n = 1 ∨ n = 2 ∨ n = 3 ∨ n = 4 ∨ n = 5 ∨ n = 6 ∨ n = 7 ∨ n = 8 := by omega
  rcases this with rfl | rfl | rfl | rfl | rfl | rfl | rfl | rfl <;>
  · go_enter Try.func6, Try.ntmps6
    go_wp2
    go_ret
    exact ⟨rfl, rfl⟩

/-- Where byte i of n stands. -/
def sg (n : Nat) (le : Bool) (i : Nat) : Nat := if le then n - 1 - i else i

theorem sig_any (n : Nat) (le : Bool) (o d : Int) (i : Nat) (hi : i < n) (hn : n ≤ 8) (w : World) :
    Calls Try.prog 13 #[.agg #[.int .i64 n, .bool le, .int .i64 o, .int .i64 d], .int .i64 i] w fun e w' => e = .returned (.int .i64 (sg n le i : Nat)) ∧ ∃ ob, w' = w.alloc ob := by
  have n1 : IntKind.i64.wrap ((n : Int) - 1) = (n : Int) - 1 := by rw [IntKind.wrap_i64]; omega
  have n2 : IntKind.i64.wrap ((n : Int) - 1 - (i : Int)) = (n : Int) - 1 - (i : Int) := by rw [IntKind.wrap_i64]; omega
  cases le
  · go_enter Try.func13, Try.ntmps13
    go_wp2
    go_ret
    exact ⟨rfl, _, rfl⟩
  · go_enter Try.func13, Try.ntmps13
    go_wp2
    go_ret
    refine ⟨?_, _, rfl⟩
    have : (n : Int) - 1 - (i : Int) = ((n - 1 - i : Nat) : Int) := by omega
    simp [sg, this]

/-- WHAT A SLICE OF BYTES HOLDS. -/
structure Src (w : World) (ao : Option Addr) (b off n : Nat) (z : Nat → Int) : Prop where
  non : ao = none → n = 0
  at_ : 0 < n → ao = some ⟨b, off, none⟩
  lt : 0 < n → b < w.heap.size
  cell : ∀ i, i < n → w.cell? ⟨b, off + i, none⟩ = some (.int .u8 (z i))

theorem Src.below {w w' : World} {B b off n : Nat} {ao : Option Addr} {z : Nat → Int} (h : Src w ao b off n z) (hB : w.heap.size ≤ B) (hb : Below B w w') : Src w' ao b off n z :=
  ⟨h.non, h.at_, fun hn => Nat.lt_of_lt_of_le (h.lt hn) hb.size, fun i hi => (hb.cell (p := ⟨b, off + i, none⟩) (Nat.lt_of_lt_of_le (h.lt (by omega)) hB)).trans (h.cell i hi)⟩

/-- The bytes of z, as cells. -/
def cells (n : Nat) (z : Nat → Int) : List Value := (List.range n).map fun i => .int .u8 (z i)
theorem cells_length (n : Nat) (z : Nat → Int) : (cells n z).length = n := by simp [cells]
theorem cells_get {n : Nat} {z : Nat → Int} {i : Nat} (hi : i < n) : (cells n z)[i]? = some (.int .u8 (z i)) := by simp [cells, hi]

theorem owns_of_row {w : World} {B g n : Nat} {f : Nat → Value} {z : Nat → Int} (h : w.rowIs g 5 n f) (hB : B ≤ g) (hn : n ≤ 1048576) (hf : ∀ i, i < n → f i = .int .u8 (z i)) :
    w.ownsRow B 5 1 (.slice (some ⟨g, 0, none⟩) n n) n (cells n z) := by
  obtain ⟨cur, h1, h2, h3⟩ := h
  refine ⟨by simp [cells], .inr ⟨g, n, cur, rfl, hB, h1, Nat.le_refl _, by unfold maxLen; omega, by omega, ?_⟩⟩
  apply List.ext_getElem?
  intro i
  by_cases hi : i < n
  · rw [List.getElem?_take_of_lt (by omega), cells_get hi, Array.getElem?_toList, h3 i hi, hf i hi]
  · rw [List.getElem?_eq_none (by simp; omega), List.getElem?_eq_none (by simp [cells]; omega)]

set_option maxRecDepth 100000 in
theorem clone_any (ao : Option Addr) (b off n cap : Nat) (z : Nat → Int) (w : World) (hn : n ≤ 1048576) (h : Src w ao b off n z) :
    Calls Try.prog 7 #[.slice ao n cap] w fun e w' => ∃ v, e = .returned v ∧ w'.ownsRow w.heap.size 5 1 v n (cells n z) ∧ Below w.heap.size w w' := by
  cases ao with
  | none =>
    obtain rfl := h.non rfl
    have hq : ∀ (w : World) (l c : Nat), (binOp .eql 22 (.slice none l c) (.slice none 0 0)).run Try.prog w = .ok (.bool true) w := fun w l c => Lib.run_eql_slice_nil w _ _ none l c 0 0 Try.underlying22
    go_enter Try.func7, Try.ntmps7
    go_wp2
    go_ret
    exact ⟨_, rfl, World.ownsRow_nil _ _ _ _, Below.refl _ _⟩
  | some x =>
    have hq : ∀ (w : World) (l c : Nat), (binOp .eql 22 (.slice (some x) l c) (.slice none 0 0)).run Try.prog w = .ok (.bool false) w := fun w l c => Lib.run_eql_slice_nil w _ _ (some x) l c 0 0 Try.underlying22
    have hmk := fun W => run_make_row' (P := Try.prog) 22 5 (.int .u8 0) 1 Try.underlying22 Try.info5 rfl .i64 .i64 n (by omega) (by omega) W
    go_enter Try.func7, Try.ntmps7
    go_wp2
    go_loopg [4] n (fun gk v wr => ∃ k f, gk + k = n ∧ v = .int .i64 k ∧ wr.rowIs w.heap.size 5 n f ∧ (∀ i, i < k → f i = .int .u8 (z i)) ∧ Below w.heap.size w wr)
    case atStart => exact ⟨0, _, rfl, rfl, World.rowIs_made _ _ _ _, fun i hi => by omega, (Below.refl _ _).alloc (Nat.le_refl _) _⟩
    case round =>
      clear hmk hq
      obtain ⟨k, f, hgk, rfl, hR, hf, hbel⟩ := hrel
      by_cases hk : k < n
      · obtain ⟨rfl⟩ : x = ⟨b, off, none⟩ := by have := h.at_ (by omega); simpa using this
        have c0 := (h.below (Nat.le_refl _) hbel).cell k hk
        have c1 := hR.cell hk
        have c2 := hR.frozen k
        have n1 : (k : Int) < (n : Int) := by omega
        have n2 : IntKind.i64.wrap ((k : Int) + 1) = (k : Int) + 1 := by rw [IntKind.wrap_i64]; omega
        go_wp2
        go_roundg (gk - 1)
        case measure => omega
        case rel =>
          go_light
          refine ⟨k + 1, _, by omega, by simp, hR.set k (.int .u8 (z k)), fun i hi => ?_, hbel.setCell (p := ⟨w.heap.size, k, none⟩) (Nat.le_refl _) _⟩
          by_cases e : i = k
          · simp [e]
          · simp [e, hf i (by omega)]
      · have hkn : k = n := by omega
        subst hkn
        have n1 : ¬ ((k : Int) < (k : Int)) := by omega
        go_wp2
        go_ret
        exact ⟨_, rfl, owns_of_row hR (Nat.le_refl _) hn hf, hbel⟩
end Go.Proofs.Qxb6617627a

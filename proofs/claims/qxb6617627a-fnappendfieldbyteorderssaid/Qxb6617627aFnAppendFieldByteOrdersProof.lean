/-
  THE LAW 'FnAppendFieldByteOrders': the short ways, the row (the given shell, its hole filled).
-/
import Derived.Test.Qxb6617627aE
import Derived.WalkKit
import Derived.ProofKit
import Derived.OpenShut
import Derived.ShutString
import Derived.ChangeOld
import Derived.Below
namespace Go.Proofs.Qxb6617627a.fnAppendFieldByteOrders
open Go.ChangeShapes Go.WideShapes Go.ChangeAt Go.RowKit
open Go.Proofs.Qxb6617627a
open Go.ChangeMaps (open_string shut_string)
set_option linter.unusedVariables false

theorem own : ownKnob Try.prog.godebug = none := by kernel_rfl
theorem laidOut : laidOutB Try.prog = true := by kernel_rfl

/-- WHAT THE WALK IS TOLD OF A SLICE OF INTEGERS THAT CAME IN: it is nil; or it leads to a row of 'cap' cells, the numbers 'zs' (the first 'len' are its elements, the rest its spare room), each fitting its kind. -/
def IsRow (k : IntKind) (w : World) (a : Option Addr) (len cap : Nat) (zs : List Int) : Prop :=
  (a = none ∧ len = 0 ∧ cap = 0 ∧ zs = []) ∨
  ∃ x, a = some x ∧ len ≤ cap ∧ cap ≤ maxLen ∧ zs.length = cap ∧ (∀ i, i < zs.length → w.cell? (x.add i) = some (.int k (zs.getD i 0))) ∧ ∀ n ∈ zs, (Lit.int k n).wf = true

set_option maxRecDepth 100000 in
theorem short_len (size : Int) (o d : Int) (ao : Option Addr) (n0 cap : Nat) (x : Int) (w : World) (h : 1048576 < n0) :
    Calls Try.prog 4 #[.int .i64 size, .int .i64 o, .int .i64 d, .slice ao n0 cap, .int .u64 x] w fun e w' => e = .returned (.bool true) ∧ Below w.heap.size w w' := by
  have d1 : decide ((1048576 : Int) < (n0 : Int)) = true := decide_eq_true (by omega)
  go_enter Try.func4, Try.ntmps4
  go_wp2
  go_ret
  exact ⟨rfl, Below.refl _ _⟩

set_option maxRecDepth 100000 in
theorem short_lo (size : Int) (o d : Int) (ao : Option Addr) (n0 cap : Nat) (x : Int) (w : World) (h : ¬ 1048576 < n0) (h1 : size < 1) :
    Calls Try.prog 4 #[.int .i64 size, .int .i64 o, .int .i64 d, .slice ao n0 cap, .int .u64 x] w fun e w' => e = .returned (.bool true) ∧ Below w.heap.size w w' := by
  have d1 : decide ((1048576 : Int) < (n0 : Int)) = false := decide_eq_false (by omega)
  have d2 : decide (size < 1) = true := decide_eq_true h1
  go_enter Try.func4, Try.ntmps4
  go_wp2
  go_ret
  exact ⟨rfl, Below.refl _ _⟩

set_option maxRecDepth 100000 in
theorem short_hi (size : Int) (o d : Int) (ao : Option Addr) (n0 cap : Nat) (x : Int) (w : World) (h : ¬ 1048576 < n0) (h1 : ¬ size < 1) (h8 : 8 < size) :
    Calls Try.prog 4 #[.int .i64 size, .int .i64 o, .int .i64 d, .slice ao n0 cap, .int .u64 x] w fun e w' => e = .returned (.bool true) ∧ Below w.heap.size w w' := by
  have d1 : decide ((1048576 : Int) < (n0 : Int)) = false := decide_eq_false (by omega)
  have d2 : decide (size < 1) = false := decide_eq_false h1
  have d3 : decide (8 < size) = true := decide_eq_true h8
  go_enter Try.func4, Try.ntmps4
  go_wp2
  go_ret
  exact ⟨rfl, Below.refl _ _⟩

set_option maxRecDepth 100000 in
theorem short_top (n : Nat) (o d : Int) (ao : Option Addr) (n0 cap : Nat) (x : Int) (w : World) (h : ¬ 1048576 < n0) (h1 : 1 ≤ n) (h8 : n ≤ 8) (hx : top n < x) :
    Calls Try.prog 4 #[.int .i64 n, .int .i64 o, .int .i64 d, .slice ao n0 cap, .int .u64 x] w fun e w' => e = .returned (.bool true) ∧ Below w.heap.size w w' := by
  have d1 : decide ((1048576 : Int) < (n0 : Int)) = false := decide_eq_false (by omega)
  have d2 : decide ((n : Int) < 1) = false := decide_eq_false (by omega)
  have d3 : decide ((8 : Int) < (n : Int)) = false := decide_eq_false (by omega)
  have d4 : decide (top n < x) = true := decide_eq_true hx
  go_enter Try.func4, Try.ntmps4
  go_wp2_with (first
    | (go_at_call 6; refine (mask_any n h1 h8 _).mono ?_; rintro e w' ⟨rfl, hw⟩; obtain rfl := hw.symm)
    | (go_at_call 10; go_in))
  go_ret
  exact ⟨rfl, Below.refl _ _⟩

theorem src_of {w : World} {a : Option Addr} {len cap : Nat} {zs : List Int} (h : IsRow .u8 w a len cap zs) : ∃ (b off : Nat) (z : Nat → Int), Src w a b off len z := by
  rcases h with ⟨rfl, rfl, _, _⟩ | ⟨x, rfl, hl, _, hz, hc, _⟩
  · exact ⟨0, 0, fun _ => 0, fun _ => rfl, fun h => (by omega), fun h => (by omega), fun i hi => (by omega)⟩
  · obtain ⟨b, off, spot⟩ := x
    by_cases hp : 0 < len
    · have hspot : spot = none := by
        have hc0 := hc 0 (by omega)
        simpa [Addr.add] using World.cell?_spot hc0
      subst hspot
      have hcell : ∀ i, i < len → w.cell? ⟨b, off + i, none⟩ = some (.int .u8 (zs.getD i 0)) := fun i hi => by
        have := hc i (by omega)
        rwa [addp] at this
      exact ⟨b, off, fun i => zs.getD i 0, fun h => (by cases h), fun _ => rfl, fun _ => World.block_lt_of_cell? _ _ (hcell 0 hp), hcell⟩
    · exact ⟨0, 0, fun _ => 0, fun h => (by cases h), fun h => absurd h hp, fun h => absurd h hp, fun i hi => by omega⟩

/-! ### STEP 1: THE WALK: the Go text returns true, AND WRITES NOTHING THAT WAS THERE: 'Below w.heap.size w w'' (Derived/Below.lean: '.refl', '.alloc', '.drew', '.setCell' at a new block, '.trans'). Open each 'IsRow' by 'rcases' AHEAD of 'go_enter'; part every test ahead of the walk. -/
theorem walk (a0 : Int) (a1 : Int) (a2 : Int) (a3 : Option Addr) (len3 cap3 : Nat) (z3 : List Int) (a4 : Int) (w : World) (w0 : (Lit.int .i64 a0).wf = true) (w1 : (Lit.int .i64 a1).wf = true) (w2 : (Lit.int .i64 a2).wf = true) (w3 : IsRow .u8 w a3 len3 cap3 z3) (w4 : (Lit.int .u64 a4).wf = true) :
    Calls Try.prog 4 #[.int .i64 a0, .int .i64 a1, .int .i64 a2, .slice a3 len3 cap3, .int .u64 a4] w fun e w' => e = .returned (.bool true) ∧ Below w.heap.size w w' := by
  have bx := bounds_u64 w4
  obtain ⟨b, off, z, hsrc⟩ := src_of w3
  by_cases hl : 1048576 < len3
  · exact short_len a0 a1 a2 a3 len3 cap3 a4 w hl
  by_cases h1 : a0 < 1
  · exact short_lo a0 a1 a2 a3 len3 cap3 a4 w hl h1
  by_cases h8 : 8 < a0
  · exact short_hi a0 a1 a2 a3 len3 cap3 a4 w hl h1 h8
  obtain ⟨n, rfl⟩ : ∃ n : Nat, a0 = (n : Int) := ⟨a0.toNat, by omega⟩
  by_cases hx : top n < a4
  · exact short_top n a1 a2 a3 len3 cap3 a4 w hl (by omega) (by omega) hx
  exact orders_any n a1 a2 a3 b off len3 cap3 z a4 w (by omega) (by omega) bx.1 (by omega) (by omega) (by omega) hsrc

/-! ### THE ROW's STEP: WRITTEN OUT: LEAVE IT -/
set_option maxRecDepth 100000 in
theorem lifted (os : Os) (started : os.Started) (H : Type) (enc : TypeId × Value → H) :
    ReturnsInHanded {} Try.checked os 4 .any (Rows.fnAppendFieldByteOrdersSpec.pre6 enc Try.prog Try.f4 Rows.fnAppendFieldByteOrdersRow.domain false) (Rows.fnAppendFieldByteOrdersSpec.post enc Try.prog Try.f4 false true false false) := by
  refine returnsInHanded_of_change (C := Try.checked) own started (by kernel_rfl) Try.func4
    (ChangeSpec.witness6 (enc := enc) (C := Try.checked) false ⟨#[], #[.int .i64 0, .int .i64 0, .int .i64 0, .slice none 0 0, .int .u64 0], []⟩ 8 (by kernel_rfl) (by kernel_rfl) (by kernel_rfl) (by kernel_rfl)) ?_
  intro W base args ds gs before hval0 hW hcnd _
  have hval : ∀ (j : Nat) t v, Try.f4.params[j]? = some t → args[j]? = some v → Value.okWide Try.prog W .any base t v := hval0
  have hW' := hW
  obtain ⟨p, q, hA0, hV, rfl, hfz, hnd⟩ := hW
  have hA : DataW.TrodAll enc Try.prog W 0 (fun _ => true) true Try.f4.params.toList args.toList ds p := hA0
  rw [Try.params4] at hA hval
  obtain ⟨v0, vs0, d0, ds0, p0, q0, hargs, rfl, rfl, h0, r0⟩ := trodAll_cons hA
  obtain ⟨v1, vs1, d1, ds1, p1, q1, rfl, rfl, rfl, h1, r1⟩ := trodAll_cons r0
  obtain ⟨v2, vs2, d2, ds2, p2, q2, rfl, rfl, rfl, h2, r2⟩ := trodAll_cons r1
  obtain ⟨v3, vs3, d3, ds3, p3, q3, rfl, rfl, rfl, h3, r3⟩ := trodAll_cons r2
  obtain ⟨v4, vs4, d4, ds4, p4, q4, rfl, rfl, rfl, h4, r4⟩ := trodAll_cons r3
  obtain ⟨rfl, rfl, rfl⟩ := trodAll_nil r4
  obtain rfl : args = #[v0, v1, v2, v3, v4] := by cases args; simp_all
  obtain ⟨rfl, rfl⟩ := trodVars_none hV
  obtain ⟨a0, rfl, rfl, rfl, w0⟩ := open_int Try.underlying3 (hval 0 3 v0 rfl rfl) h0
  obtain ⟨a1, rfl, rfl, rfl, w1⟩ := open_int Try.underlying3 (hval 1 3 v1 rfl rfl) h1
  obtain ⟨a2, rfl, rfl, rfl, w2⟩ := open_int Try.underlying2 (hval 2 2 v2 rfl rfl) h2
  obtain ⟨a3, len3, cap3, rfl⟩ := okWide_slice Try.underlying22 (hval 3 22 v3 rfl rfl)
  have k3 := h3
  have lt3 : ∀ x ∈ p3, x.block < W.heap.size := by obtain ⟨m, hm⟩ := k3; exact DataW.trod_lt m _ _ _ hm
  obtain ⟨z3, w3⟩ : ∃ zs, IsRow .u8 W a3 len3 cap3 zs := by
    obtain ⟨fuel, hf⟩ := h3
    rcases open_ints Try.underlying22 Try.underlying5 (by kernel_rfl) hf with ⟨hcs, _⟩ | ⟨x, l, c, zs, hcs, _, hl, hm, hz, _, hcell, hwz⟩
    · simp [Value.cells] at hcs
      obtain ⟨rfl, rfl, rfl⟩ := hcs
      exact ⟨[], .inl ⟨rfl, rfl, rfl, rfl⟩⟩
    · simp [Value.cells] at hcs
      obtain ⟨rfl, rfl, rfl⟩ := hcs
      exact ⟨zs, .inr ⟨_, rfl, hl, hm, by simpa using hz, hcell, hwz⟩⟩
  obtain ⟨a4, rfl, rfl, rfl, w4⟩ := open_int Try.underlying23 (hval 4 23 v4 rfl rfl) h4
  clear hA0 hval0
  refine (walk a0 a1 a2 a3 len3 cap3 z3 a4 W w0 w1 w2 w3 w4).mono fun e W' ⟨he, bel⟩ => ?_
  subst he
  exact ⟨_, rfl, _, _, _, [], _, [], hW', trodAll_mk1 (shut_bool Try.underlying4 _), (trodAll_cons_mk (shut_int Try.underlying3 w0) (trodAll_cons_mk (shut_int Try.underlying3 w1) (trodAll_cons_mk (shut_int Try.underlying2 w2) (trodAll_cons_mk (Below.trod laidOut (by kernel_rfl) (of_decide_eq_true (by kernel_rfl)) k3 bel lt3) (trodAll_cons_mk (shut_int Try.underlying23 w4) trodAll_mk0))))), rfl, bel.frame _, fun h => by cases h⟩

theorem over : Rows.fnAppendFieldByteOrdersRow.holds Try.pinned (OpenSpec.ofChange Rows.fnAppendFieldByteOrdersSpec) :=
  OpenClaim.holds_of_wide 4 Try.f4 rfl rfl rfl rfl rfl rfl rfl ⟨rfl, rfl, rfl, rfl, rfl⟩ rfl rfl rfl rfl rfl (by kernel_rfl) Try.func4 (by kernel_rfl)
    (of_decide_eq_true (by kernel_rfl)) (by unfold Func.isWrapper; first | (rw [if_pos (by decide +kernel)]; kernel_rfl) | (rw [if_neg (by decide +kernel)]; exact ⟨rfl, rfl⟩))
    (fun os started H enc _ => lifted os started H enc)

/-- ████ THE STATEMENT ████ -/
theorem proved : Rows.FnAppendFieldByteOrdersSaid := over
#print axioms proved
end Go.Proofs.Qxb6617627a.fnAppendFieldByteOrders

/-
  THE LAW 'FnGhostsAddKeepsLastWindow': the short ways, the row.
-/
import Derived.Test.Qxb6617092aLawA
import Derived.ProofKit
import Derived.OpenShut
import Derived.ChangeOld
import Derived.Below
import Derived.Deep.SlicePairs
namespace Go.Proofs.Qxb6617092a
open Go.ChangeShapes Go.WideShapes Go.ChangeAt Go.RowKit Go.Maps

theorem own : ownKnob Try.prog.godebug = none := by kernel_rfl
theorem laidOut : laidOutB Try.prog = true := by kernel_rfl

set_option maxRecDepth 100000 in
theorem lawA_big (ao : Option Addr) (len cap : Nat) (w : World) (h : 4096 < len) (hm : len ≤ maxLen) :
    Calls Try.prog 3 #[.slice ao len cap] w fun e w' => e = .returned (.bool true) ∧ Below w.heap.size w w' := by
  unfold maxLen at hm
  by_cases h1 : 1048576 < len
  · go_enter Try.func3, Try.ntmps3
    go_wp2
    go_ret
    exact ⟨rfl, Below.refl _ _⟩
  · go_enter Try.func3, Try.ntmps3
    go_wp2
    go_ret
    exact ⟨rfl, Below.refl _ _⟩

set_option maxRecDepth 100000 in
theorem lawA_zero (ao : Option Addr) (cap : Nat) (w : World) :
    Calls Try.prog 3 #[.slice ao 0 cap] w fun e w' => e = .returned (.bool true) ∧ Below w.heap.size w w' := by
  have hln := fun ty => Maps.len_nil (P := Try.prog) (w := w) Try.underlying28 ty
  go_enter Try.func3, Try.ntmps3
  go_wp2
  refine wp_loop_rounds 1 ?_
  rw [rounds_succ]
  go_wp2
  refine wp_loop_rounds 1 ?_
  rw [rounds_succ]
  go_wp2
  refine wp_loop_rounds 1 ?_
  rw [rounds_succ]
  go_wp2
  go_ret
  exact ⟨rfl, Below.refl _ _⟩

/-- WHAT THE WALK IS TOLD OF A SLICE OF PAIRS THAT CAME IN. -/
def IsOpsA (w : World) (a : Option Addr) (len : Nat) : Prop :=
  len ≤ maxLen ∧ (0 < len → ∃ (b off : Nat) (H L : Nat → Int), a = some ⟨b, off, none⟩ ∧ b < w.heap.size ∧ (∀ i, i < len → w.cell? ⟨b, off + i * 2, none⟩ = some (.int .u64 (H i))) ∧ (∀ i, i < len → w.cell? ⟨b, off + i * 2 + 1, none⟩ = some (.int .i64 (L i))) ∧
    (∀ i, i < len → (Lit.int .u64 (H i)).wf = true) ∧ ∀ i, i < len → -9223372036854775808 ≤ L i ∧ L i ≤ 9223372036854775807)

theorem walkA (a : Option Addr) (len cap : Nat) (w : World) (h : IsOpsA w a len) :
    Calls Try.prog 3 #[.slice a len cap] w fun e w' => e = .returned (.bool true) ∧ Below w.heap.size w w' := by
  obtain ⟨hm, ho⟩ := h
  by_cases h0 : len = 0
  · subst h0
    exact lawA_zero a cap w
  · by_cases h1 : 4096 < len
    · exact lawA_big a len cap w h1 hm
    · obtain ⟨b, off, H, L, rfl, hb, c0, c1, w0, w1⟩ := ho (by omega)
      exact law_pos b off len cap H L w (by omega) (by omega) hb c0 c1 w0 w1

set_option maxRecDepth 100000 in
theorem liftedA (os : Os) (started : os.Started) (H : Type) (enc : TypeId × Value → H) :
    ReturnsInHanded {} Try.checked os 3 .any (Rows.fnGhostsAddKeepsLastWindowSpec.pre6 enc Try.prog Try.f3 Rows.fnGhostsAddKeepsLastWindowRow.domain false) (Rows.fnGhostsAddKeepsLastWindowSpec.post enc Try.prog Try.f3 false true false false) := by
  refine returnsInHanded_of_change (C := Try.checked) own started (by kernel_rfl) Try.func3
    (ChangeSpec.witness6 (enc := enc) (C := Try.checked) false ⟨#[], #[.slice none 0 0], []⟩ 8 (by kernel_rfl) (by kernel_rfl) (by kernel_rfl) (by kernel_rfl)) ?_
  intro W base args ds gs before hval0 hW hcnd _
  have hval : ∀ (j : Nat) t v, Try.f3.params[j]? = some t → args[j]? = some v → Value.okWide Try.prog W .any base t v := hval0
  have hW' := hW
  obtain ⟨p, q, hA0, hV, rfl, hfz, hnd⟩ := hW
  have hA : DataW.TrodAll enc Try.prog W 0 (fun _ => true) true Try.f3.params.toList args.toList ds p := hA0
  rw [Try.params3] at hA hval
  obtain ⟨v0, vs0, d0, ds0, p0, q0, hargs, rfl, rfl, h0, r0⟩ := trodAll_cons hA
  obtain ⟨rfl, rfl, rfl⟩ := trodAll_nil r0
  obtain rfl : args = #[v0] := by cases args; simp_all
  obtain ⟨rfl, rfl⟩ := trodVars_none hV
  obtain ⟨a0, len0, cap0, rfl⟩ := okWide_slice Try.underlying22 (hval 0 22 v0 rfl rfl)
  have k0 := h0
  have lt0 : ∀ x ∈ p0, x.block < W.heap.size := by obtain ⟨m, hm⟩ := k0; exact DataW.trod_lt m _ _ _ hm
  have w0 : IsOpsA W a0 len0 := by
    obtain ⟨fuel, hf⟩ := h0
    rcases Deep.open_slice_pairs Try.underlying22 Try.underlying26 (by kernel_rfl) (by kernel_rfl) (by kernel_rfl) (by kernel_rfl) (by kernel_rfl) hf with ⟨hcs, _⟩ | ⟨x, l, c, m, n, V0, V1, D0, D1, P0, P1, hcs, _, hl, hm, hmm, _, hcell⟩
    · simp [Value.cells] at hcs
      obtain ⟨rfl, rfl, rfl⟩ := hcs
      exact ⟨by decide, fun h => by omega⟩
    · simp [Value.cells] at hcs
      obtain ⟨rfl, rfl, rfl⟩ := hcs
      refine ⟨by omega, fun hp => ?_⟩
      have hmm' : m = cap0 := by simpa using hmm
      subst hmm'
      obtain ⟨b, off, spot⟩ := x
      have hspot : spot = none := by simpa [Addr.add] using World.cell?_spot (hcell 0 (by omega)).1
      subst hspot
      obtain ⟨Hs, hH⟩ := Deep.choose_lt (n := len0) (p := fun i z => V0 i = .int .u64 z ∧ (Lit.int .u64 z).wf = true) (fun i hi => by
        obtain ⟨z, e, _, hz⟩ := DataW.trod_int Try.underlying24 (hcell i (by omega)).2.2.1
        exact ⟨z, by simpa using e, hz⟩)
      obtain ⟨Ls, hL⟩ := Deep.choose_lt (n := len0) (p := fun i z => V1 i = .int .i64 z ∧ (Lit.int .i64 z).wf = true) (fun i hi => by
        obtain ⟨z, e, _, hz⟩ := DataW.trod_int Try.underlying3 (hcell i (by omega)).2.2.2
        exact ⟨z, by simpa using e, hz⟩)
      refine ⟨b, off, Hs, Ls, rfl, World.block_lt_of_cell? _ _ (hcell 0 (by omega)).1, fun i hi => ?_, fun i hi => ?_, fun i hi => (hH i hi).2, fun i hi => bounds_i64 (hL i hi).2⟩
      · have := (hcell i (by omega)).1
        rw [add_plain, (hH i hi).1] at this
        exact this
      · have := (hcell i (by omega)).2.1
        rw [add_plain, (hL i hi).1] at this
        exact this
  clear hA0 hval0
  refine (walkA a0 len0 cap0 W w0).mono fun e W' ⟨he, bel⟩ => ?_
  subst he
  exact ⟨_, rfl, _, _, _, [], _, [], hW', trodAll_mk1 (shut_bool Try.underlying4 _), (trodAll_cons_mk (Below.trod laidOut (by kernel_rfl) (of_decide_eq_true (by kernel_rfl)) k0 bel lt0) trodAll_mk0), rfl, bel.frame _, fun h => by cases h⟩

theorem overA : Rows.fnGhostsAddKeepsLastWindowRow.holds Try.pinned (OpenSpec.ofChange Rows.fnGhostsAddKeepsLastWindowSpec) :=
  OpenClaim.holds_of_wide 3 Try.f3 rfl rfl rfl rfl rfl rfl rfl ⟨rfl, rfl, rfl, rfl, rfl⟩ rfl rfl rfl rfl rfl (by kernel_rfl) Try.func3 (by kernel_rfl)
    (of_decide_eq_true (by kernel_rfl)) (by unfold Func.isWrapper; first | (rw [if_pos (by decide +kernel)]; kernel_rfl) | (rw [if_neg (by decide +kernel)]; exact ⟨rfl, rfl⟩))
    (fun os started H enc _ => liftedA os started H enc)

/-- THE STATEMENT. -/
theorem fnGhostsAddKeepsLastWindow_proved : Rows.FnGhostsAddKeepsLastWindowSaid := overA
#print axioms fnGhostsAddKeepsLastWindow_proved
end Go.Proofs.Qxb6617092a

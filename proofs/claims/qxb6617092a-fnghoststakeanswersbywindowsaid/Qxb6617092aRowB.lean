/-
  THE LAW 'FnGhostsTakeAnswersByWindow': the short ways, the row.
-/
import Derived.Test.Qxb6617092aLawB
import Derived.ProofKit
import Derived.OpenShut
import Derived.ChangeOld
import Derived.Below
import Derived.Deep.Slices
namespace Go.Proofs.Qxb6617092a
open Go.ChangeShapes Go.WideShapes Go.ChangeAt Go.RowKit Go.Maps

theorem ownB : ownKnob Try.prog.godebug = none := by kernel_rfl
theorem laidOutB' : laidOutB Try.prog = true := by kernel_rfl

set_option maxRecDepth 100000 in
theorem lawB_big (ao : Option Addr) (len cap : Nat) (w : World) (h : 4096 < len) (hm : len ≤ maxLen) :
    Calls Try.prog 4 #[.slice ao len cap] w fun e w' => e = .returned (.bool true) ∧ Below w.heap.size w w' := by
  unfold maxLen at hm
  by_cases h1 : 1048576 < len
  · go_enter Try.func4, Try.ntmps4
    go_wp2
    go_ret
    exact ⟨rfl, Below.refl _ _⟩
  · go_enter Try.func4, Try.ntmps4
    go_wp2
    go_ret
    exact ⟨rfl, Below.refl _ _⟩

set_option maxRecDepth 100000 in
theorem lawB_zero (ao : Option Addr) (cap : Nat) (w : World) :
    Calls Try.prog 4 #[.slice ao 0 cap] w fun e w' => e = .returned (.bool true) ∧ Below w.heap.size w w' := by
  have hln := fun W ty => Maps.len_nil (P := Try.prog) (w := W) Try.underlying28 ty
  have hmk1 : ∀ W, (Instr.makeSlice 36 (.int .i64 0) (.int .i64 0)).run Try.prog W = .ok (.slice (some ⟨W.heap.size, 0, none⟩) 0 0) (W.alloc (.cells (madeCells #[.int .i64 0] 0) 3)) := fun W => run_make_row' (P := Try.prog) 36 3 (.int .i64 0) 8 Try.underlying36 Try.info3 rfl .i64 .i64 0 (by omega) (by omega) W
  have hmk2 : ∀ W, (Instr.makeSlice 27 (.int .i64 0) (.int .i64 0)).run Try.prog W = .ok (.slice (some ⟨W.heap.size, 0, none⟩) 0 0) (W.alloc (.cells (madeCells #[.int .u64 0] 0) 24)) := fun W => run_make0 0 (by omega) W
  go_enter Try.func4, Try.ntmps4
  go_wp2
  refine wp_loop_rounds 1 ?_
  rw [rounds_succ]
  go_wp2
  refine wp_loop_rounds 1 ?_
  rw [rounds_succ]
  go_wp2
  refine wp_loop_rounds 1 ?_
  rw [rounds_succ]
  go_wp2
  refine wp_loop_rounds 1 ?_
  rw [rounds_succ]
  go_wp2
  go_ret
  exact ⟨rfl, ((Below.refl _ _).alloc (Nat.le_refl _) _).alloc (by simp) _⟩

/-- WHAT THE WALK IS TOLD OF A SLICE OF TRIPLES THAT CAME IN. -/
def IsOpsB (w : World) (a : Option Addr) (len : Nat) : Prop :=
  len ≤ maxLen ∧ (0 < len → ∃ (b off : Nat) (A : Nat → Bool) (H L : Nat → Int), a = some ⟨b, off, none⟩ ∧ b < w.heap.size ∧ (∀ i, i < len → w.cell? ⟨b, off + i * 3, none⟩ = some (.bool (A i))) ∧ (∀ i, i < len → w.cell? ⟨b, off + i * 3 + 1, none⟩ = some (.int .u64 (H i))) ∧
    (∀ i, i < len → w.cell? ⟨b, off + i * 3 + 2, none⟩ = some (.int .i64 (L i))) ∧ (∀ i, i < len → (Lit.int .u64 (H i)).wf = true) ∧ ∀ i, i < len → -9223372036854775808 ≤ L i ∧ L i ≤ 9223372036854775807)

theorem walkB (a : Option Addr) (len cap : Nat) (w : World) (h : IsOpsB w a len) :
    Calls Try.prog 4 #[.slice a len cap] w fun e w' => e = .returned (.bool true) ∧ Below w.heap.size w w' := by
  obtain ⟨hm, ho⟩ := h
  by_cases h0 : len = 0
  · subst h0
    exact lawB_zero a cap w
  · by_cases h1 : 4096 < len
    · exact lawB_big a len cap w h1 hm
    · obtain ⟨b, off, A, H, L, rfl, hb, c0, c1, c2, w0, w1⟩ := ho (by omega)
      exact lawB_pos b off len cap A H L w (by omega) (by omega) hb c0 c1 c2 w0 w1

theorem list3 {α : Type} {l : List α} (h : l.length = 3) : ∃ a b c, l = [a, b, c] := by
  match l, h with
  | [a, b, c], _ => exact ⟨a, b, c, rfl⟩

/-- One element of the slice, opened. -/
theorem triple {H : Type} {enc : TypeId × Value → H} {W : World} {n : Nat} {b off i : Nat} {cs : List Value} {x : DataW H × List MemPlace}
    (h1 : W.cells? 0 ((⟨b, off, none⟩ : Addr).add (i * 3)) 3 = some cs) (h2 : DataW.trod enc Try.prog W 0 (fun _ => true) true n 35 cs = some x) :
    ∃ (A : Bool) (z l : Int), W.cell? ⟨b, off + i * 3, none⟩ = some (.bool A) ∧ W.cell? ⟨b, off + i * 3 + 1, none⟩ = some (.int .u64 z) ∧ W.cell? ⟨b, off + i * 3 + 2, none⟩ = some (.int .i64 l) ∧ (Lit.int .u64 z).wf = true ∧ (Lit.int .i64 l).wf = true := by
  obtain ⟨_, hlen, hcell⟩ := World.cells?_some h1
  obtain ⟨xs, k, hk, hxy, _, hxl, hf⟩ := DataW.trod_struct Try.underlying35 h2
  obtain ⟨v0, v1, v2, rfl⟩ := list3 hlen
  obtain ⟨y0, y1, y2, rfl⟩ := list3 (by simpa using hxl)
  have g0 := hf 0 _ rfl
  have g1 := hf 1 _ rfl
  have g2 := hf 2 _ rfl
  have k4 : Try.prog.cellsOf 4 = 1 := by kernel_rfl
  have k24 : Try.prog.cellsOf 24 = 1 := by kernel_rfl
  have k3 : Try.prog.cellsOf 3 = 1 := by kernel_rfl
  simp [k4, k24, k3] at g0 g1 g2
  obtain ⟨A, e0, _⟩ := DataW.trod_bool Try.underlying4 g0
  obtain ⟨z, e1, _, wz⟩ := DataW.trod_int Try.underlying24 g1
  obtain ⟨l, e2, _, wl⟩ := DataW.trod_int Try.underlying3 g2
  have c0 := hcell 0 (by omega)
  have c1 := hcell 1 (by omega)
  have c2 := hcell 2 (by omega)
  rw [Deep.add_add, add_plain] at c0 c1 c2
  simp at e0 e1 e2
  subst e0; subst e1; subst e2
  exact ⟨A, z, l, by simpa using c0, by simpa [Nat.add_assoc] using c1, by simpa [Nat.add_assoc] using c2, wz, wl⟩

set_option maxRecDepth 100000 in
theorem liftedB (os : Os) (started : os.Started) (H : Type) (enc : TypeId × Value → H) :
    ReturnsInHanded {} Try.checked os 4 .any (Rows.fnGhostsTakeAnswersByWindowSpec.pre6 enc Try.prog Try.f4 Rows.fnGhostsTakeAnswersByWindowRow.domain false) (Rows.fnGhostsTakeAnswersByWindowSpec.post enc Try.prog Try.f4 false true false false) := by
  refine returnsInHanded_of_change (C := Try.checked) ownB started (by kernel_rfl) Try.func4
    (ChangeSpec.witness6 (enc := enc) (C := Try.checked) false ⟨#[], #[.slice none 0 0], []⟩ 8 (by kernel_rfl) (by kernel_rfl) (by kernel_rfl) (by kernel_rfl)) ?_
  intro W base args ds gs before hval0 hW hcnd _
  have hval : ∀ (j : Nat) t v, Try.f4.params[j]? = some t → args[j]? = some v → Value.okWide Try.prog W .any base t v := hval0
  have hW' := hW
  obtain ⟨p, q, hA0, hV, rfl, hfz, hnd⟩ := hW
  have hA : DataW.TrodAll enc Try.prog W 0 (fun _ => true) true Try.f4.params.toList args.toList ds p := hA0
  rw [Try.params4] at hA hval
  obtain ⟨v0, vs0, d0, ds0, p0, q0, hargs, rfl, rfl, h0, r0⟩ := trodAll_cons hA
  obtain ⟨rfl, rfl, rfl⟩ := trodAll_nil r0
  obtain rfl : args = #[v0] := by cases args; simp_all
  obtain ⟨rfl, rfl⟩ := trodVars_none hV
  obtain ⟨a0, len0, cap0, rfl⟩ := okWide_slice Try.underlying32 (hval 0 32 v0 rfl rfl)
  have k0 := h0
  have lt0 : ∀ x ∈ p0, x.block < W.heap.size := by obtain ⟨m, hm⟩ := k0; exact DataW.trod_lt m _ _ _ hm
  have w0 : IsOpsB W a0 len0 := by
    obtain ⟨fuel, hf⟩ := h0
    have c35 : Try.prog.cellsOf 35 = 3 := by kernel_rfl
    rcases Deep.open_slice Try.underlying32 hf with ⟨hcs, _⟩ | ⟨x, l, c, m, n, D, Pl, hcs, _, hl, hm, hmm, _, hcell⟩
    · simp [Value.cells] at hcs
      obtain ⟨rfl, rfl, rfl⟩ := hcs
      exact ⟨by decide, fun h => by omega⟩
    · simp [Value.cells] at hcs
      obtain ⟨rfl, rfl, rfl⟩ := hcs
      refine ⟨by omega, fun hp => ?_⟩
      have hmm' : m = cap0 := by simpa using hmm
      subst hmm'
      rw [c35] at hcell
      obtain ⟨b, off, spot⟩ := x
      have hspot : spot = none := by
        obtain ⟨cs', g1, _⟩ := hcell 0 (by omega)
        obtain ⟨_, hl3, hc⟩ := World.cells?_some g1
        obtain ⟨v0, v1, v2, rfl⟩ := list3 hl3
        have hc0 : W.cell? (((⟨b, off, spot⟩ : Addr).add (0 * 3)).add 0) = some v0 := hc 0 (by omega)
        simpa [Addr.add] using World.cell?_spot hc0
      subst hspot
      have each : ∀ i, i < len0 → ∃ q : Bool × Int × Int, W.cell? ⟨b, off + i * 3, none⟩ = some (.bool q.1) ∧ W.cell? ⟨b, off + i * 3 + 1, none⟩ = some (.int .u64 q.2.1) ∧ W.cell? ⟨b, off + i * 3 + 2, none⟩ = some (.int .i64 q.2.2) ∧ (Lit.int .u64 q.2.1).wf = true ∧ (Lit.int .i64 q.2.2).wf = true := fun i hi => by
        obtain ⟨cs', g1, g2⟩ := hcell i (by omega)
        obtain ⟨A, z, l, r⟩ := triple g1 g2
        exact ⟨(A, z, l), r⟩
      obtain ⟨q, hq⟩ := Deep.choose_lt each
      exact ⟨b, off, fun i => (q i).1, fun i => (q i).2.1, fun i => (q i).2.2, rfl, World.block_lt_of_cell? _ _ (hq 0 hp).1, fun i hi => (hq i hi).1, fun i hi => (hq i hi).2.1, fun i hi => (hq i hi).2.2.1, fun i hi => (hq i hi).2.2.2.1, fun i hi => bounds_i64 (hq i hi).2.2.2.2⟩
  clear hA0 hval0
  refine (walkB a0 len0 cap0 W w0).mono fun e W' ⟨he, bel⟩ => ?_
  subst he
  exact ⟨_, rfl, _, _, _, [], _, [], hW', trodAll_mk1 (shut_bool Try.underlying4 _), (trodAll_cons_mk (Below.trod laidOutB' (by kernel_rfl) (of_decide_eq_true (by kernel_rfl)) k0 bel lt0) trodAll_mk0), rfl, bel.frame _, fun h => by cases h⟩

theorem overB : Rows.fnGhostsTakeAnswersByWindowRow.holds Try.pinned (OpenSpec.ofChange Rows.fnGhostsTakeAnswersByWindowSpec) :=
  OpenClaim.holds_of_wide 4 Try.f4 rfl rfl rfl rfl rfl rfl rfl ⟨rfl, rfl, rfl, rfl, rfl⟩ rfl rfl rfl rfl rfl (by kernel_rfl) Try.func4 (by kernel_rfl)
    (of_decide_eq_true (by kernel_rfl)) (by unfold Func.isWrapper; first | (rw [if_pos (by decide +kernel)]; kernel_rfl) | (rw [if_neg (by decide +kernel)]; exact ⟨rfl, rfl⟩))
    (fun os started H enc _ => liftedB os started H enc)

/-- THE STATEMENT. -/
theorem fnGhostsTakeAnswersByWindow_proved : Rows.FnGhostsTakeAnswersByWindowSaid := overB
#print axioms fnGhostsTakeAnswersByWindow_proved
end Go.Proofs.Qxb6617092a

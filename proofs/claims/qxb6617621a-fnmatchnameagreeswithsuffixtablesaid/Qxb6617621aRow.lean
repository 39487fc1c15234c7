/-
  THE LAW 'FnMatchNameAgreesWithSuffixTable': the short ways, the row.
-/
import Derived.Test.Qxb6617621aLaw
import Derived.ProofKit
import Derived.OpenShut
import Derived.ChangeOld
import Derived.Below
import Derived.Deep.Slices
import Derived.ShutString
import Derived.ChangeMaps5
namespace Go.Proofs.Qxb6617621a
open Go.ChangeShapes Go.WideShapes Go.ChangeAt Go.RowKit Go.Maps
open Go.ChangeMaps (open_string shut_string)

theorem own0 : ownKnob Try.prog.godebug = none := by kernel_rfl
theorem laid0 : laidOutB Try.prog = true := by kernel_rfl

set_option maxRecDepth 100000 in
theorem short1 (ao : Option Addr) (n cap : Nat) (s : ByteArray) (w : World) (h : 1048576 < n)  :
    Calls Try.prog 3 #[.slice ao n cap, .string s] w fun e w' => e = .returned (.bool true) ∧ Below w.heap.size w w' := by
  have d1 : decide ((1048576 : Int) < (n : Int)) = true := decide_eq_true (by omega)
  go_enter Try.func3, Try.ntmps3
  go_wp2
  go_ret
  exact ⟨rfl, Below.refl _ _⟩

set_option maxRecDepth 100000 in
theorem short2 (ao : Option Addr) (n cap : Nat) (s : ByteArray) (w : World) (h : 1048576 < s.size) (g0 : ¬ 1048576 < n) :
    Calls Try.prog 3 #[.slice ao n cap, .string s] w fun e w' => e = .returned (.bool true) ∧ Below w.heap.size w w' := by
  have d1 : decide ((1048576 : Int) < (n : Int)) = false := decide_eq_false (by omega)
  have d2 : decide ((1048576 : Int) < (s.size : Int)) = true := decide_eq_true (by omega)
  go_enter Try.func3, Try.ntmps3
  go_wp2
  go_ret
  exact ⟨rfl, Below.refl _ _⟩

set_option maxRecDepth 100000 in
theorem short3 (ao : Option Addr) (n cap : Nat) (s : ByteArray) (w : World) (h : 1048576 < n + s.size) (g0 : ¬ 1048576 < n) (g1 : ¬ 1048576 < s.size) :
    Calls Try.prog 3 #[.slice ao n cap, .string s] w fun e w' => e = .returned (.bool true) ∧ Below w.heap.size w w' := by
  have d1 : decide ((1048576 : Int) < (n : Int)) = false := decide_eq_false (by omega)
  have d2 : decide ((1048576 : Int) < (s.size : Int)) = false := decide_eq_false (by omega)
  have d3 : decide ((1048576 : Int) < (n : Int) + (s.size : Int)) = true := decide_eq_true (by omega)
  go_enter Try.func3, Try.ntmps3
  go_wp2
  go_ret
  exact ⟨rfl, Below.refl _ _⟩

set_option maxRecDepth 100000 in
theorem short4 (ao : Option Addr) (n cap : Nat) (s : ByteArray) (w : World) (h : 4096 < n) (g0 : ¬ 1048576 < n + s.size) :
    Calls Try.prog 3 #[.slice ao n cap, .string s] w fun e w' => e = .returned (.bool true) ∧ Below w.heap.size w w' := by
  have d1 : decide ((1048576 : Int) < (n : Int)) = false := decide_eq_false (by omega)
  have d2 : decide ((1048576 : Int) < (s.size : Int)) = false := decide_eq_false (by omega)
  have d3 : decide ((1048576 : Int) < (n : Int) + (s.size : Int)) = false := decide_eq_false (by omega)
  have d4 : decide ((4096 : Int) < (n : Int)) = true := decide_eq_true (by omega)
  go_enter Try.func3, Try.ntmps3
  go_wp2
  go_ret
  exact ⟨rfl, Below.refl _ _⟩

set_option maxRecDepth 100000 in
theorem short5 (ao : Option Addr) (n cap : Nat) (s : ByteArray) (w : World) (h : 4096 < s.size) (g0 : ¬ 4096 < n) (g1 : ¬ 1048576 < n + s.size) :
    Calls Try.prog 3 #[.slice ao n cap, .string s] w fun e w' => e = .returned (.bool true) ∧ Below w.heap.size w w' := by
  have d1 : decide ((1048576 : Int) < (n : Int)) = false := decide_eq_false (by omega)
  have d2 : decide ((1048576 : Int) < (s.size : Int)) = false := decide_eq_false (by omega)
  have d3 : decide ((1048576 : Int) < (n : Int) + (s.size : Int)) = false := decide_eq_false (by omega)
  have d4 : decide ((4096 : Int) < (n : Int)) = false := decide_eq_false (by omega)
  have d5 : decide ((4096 : Int) < (s.size : Int)) = true := decide_eq_true (by omega)
  go_enter Try.func3, Try.ntmps3
  go_wp2
  go_ret
  exact ⟨rfl, Below.refl _ _⟩

set_option maxRecDepth 100000 in
theorem short6 (ao : Option Addr) (n cap : Nat) (s : ByteArray) (w : World) (h : 1048576 < n * 56 + s.size) (g0 : ¬ 4096 < n) (g1 : ¬ 4096 < s.size) (g2 : ¬ 1048576 < n + s.size) :
    Calls Try.prog 3 #[.slice ao n cap, .string s] w fun e w' => e = .returned (.bool true) ∧ Below w.heap.size w w' := by
  have d1 : decide ((1048576 : Int) < (n : Int)) = false := decide_eq_false (by omega)
  have d2 : decide ((1048576 : Int) < (s.size : Int)) = false := decide_eq_false (by omega)
  have d3 : decide ((1048576 : Int) < (n : Int) + (s.size : Int)) = false := decide_eq_false (by omega)
  have d4 : decide ((4096 : Int) < (n : Int)) = false := decide_eq_false (by omega)
  have d5 : decide ((4096 : Int) < (s.size : Int)) = false := decide_eq_false (by omega)
  have d6 : decide ((1048576 : Int) < (n : Int) * 56 + (s.size : Int)) = true := decide_eq_true (by omega)
  go_enter Try.func3, Try.ntmps3
  go_wp2
  go_ret
  exact ⟨rfl, Below.refl _ _⟩

/-- WHAT THE WALK IS TOLD OF A SLICE OF TOKENS THAT CAME IN. -/
def IsToks (w : World) (a : Option Addr) (n : Nat) : Prop :=
  ∃ (b off : Nat) (tk : Nat → Tk), (0 < n → a = some ⟨b, off, none⟩) ∧ Toks w b off n tk ∧ ∀ i, i < n → (tk i).ok

theorem walk0 (a : Option Addr) (n cap : Nat) (s : ByteArray) (w : World) (h : IsToks w a n) :
    Calls Try.prog 3 #[.slice a n cap, .string s] w fun e w' => e = .returned (.bool true) ∧ Below w.heap.size w w' := by
  obtain ⟨b, off, tk, ha, ht, hok⟩ := h
  by_cases h1 : 1048576 < n
  · exact short1 a n cap s w h1
  by_cases h2 : 1048576 < s.size
  · exact short2 a n cap s w h2 h1
  by_cases h3 : 1048576 < n + s.size
  · exact short3 a n cap s w h3 h1 h2
  by_cases h4 : 4096 < n
  · exact short4 a n cap s w h4 h3
  by_cases h5 : 4096 < s.size
  · exact short5 a n cap s w h5 h4 h3
  by_cases h6 : 1048576 < n * 56 + s.size
  · exact short6 a n cap s w h6 h4 h5 h3
  exact law_any a b off n cap s tk w ha (by omega) (by omega) (by omega) ht hok

theorem list4 {α : Type} {l : List α} (h : l.length = 4) : ∃ a b c d, l = [a, b, c, d] := by
  match l, h with
  | [a, b, c, d], _ => exact ⟨a, b, c, d, rfl⟩
theorem list7 {α : Type} {l : List α} (h : l.length = 7) : ∃ a b c d e f g, l = [a, b, c, d, e, f, g] := by
  match l, h with
  | [a, b, c, d, e, f, g], _ => exact ⟨a, b, c, d, e, f, g, rfl⟩

/-- One token of the slice, opened. -/
theorem token_open {H : Type} {enc : TypeId × Value → H} {W : World} {n : Nat} {b off i : Nat} {cs : List Value} {x : DataW H × List MemPlace}
    (h1 : W.cells? 0 ((⟨b, off, none⟩ : Addr).add (i * 7)) 7 = some cs) (h2 : DataW.trod enc Try.prog W 0 (fun _ => true) true n 33 cs = some x) :
    ∃ t : Tk, (W.cell? ⟨b, off + i * 7, none⟩ = some (.int .i64 t.k) ∧ W.cell? ⟨b, off + i * 7 + 1, none⟩ = some (.int .u8 t.b) ∧ W.cell? ⟨b, off + i * 7 + 2, none⟩ = some (.int .u64 t.s0) ∧ W.cell? ⟨b, off + i * 7 + 3, none⟩ = some (.int .u64 t.s1) ∧
      W.cell? ⟨b, off + i * 7 + 4, none⟩ = some (.int .u64 t.s2) ∧ W.cell? ⟨b, off + i * 7 + 5, none⟩ = some (.int .u64 t.s3) ∧ W.cell? ⟨b, off + i * 7 + 6, none⟩ = some (.bool t.d)) ∧ t.ok := by
  obtain ⟨_, hlen, hcell⟩ := World.cells?_some h1
  obtain ⟨xs, k, hk, hxy, _, hxl, hf⟩ := DataW.trod_struct Try.underlying33 h2
  obtain ⟨v0, v1, v2, v3, v4, v5, v6, rfl⟩ := list7 hlen
  obtain ⟨y0, y1, y2, y3, rfl⟩ := list4 (by simpa using hxl)
  have g0 := hf 0 _ rfl
  have g1 := hf 1 _ rfl
  have g2 := hf 2 _ rfl
  have g3 := hf 3 _ rfl
  have k3 : Try.prog.cellsOf 3 = 1 := by kernel_rfl
  have k5 : Try.prog.cellsOf 5 = 1 := by kernel_rfl
  have k27 : Try.prog.cellsOf 27 = 4 := by kernel_rfl
  have k4 : Try.prog.cellsOf 4 = 1 := by kernel_rfl
  have k26 : Try.prog.cellsOf 26 = 1 := by kernel_rfl
  simp [k3, k5, k27, k4] at g0 g1 g2 g3
  obtain ⟨a0, e0, _, _⟩ := DataW.trod_int Try.underlying3 g0
  obtain ⟨a1, e1, _, _⟩ := DataW.trod_int Try.underlying5 g1
  obtain ⟨a6, e6, _⟩ := DataW.trod_bool Try.underlying4 g3
  obtain ⟨ys, m, hm, _, _, hyl, hg⟩ := DataW.trod_array Try.underlying27 g2
  obtain ⟨q0, q1, q2, q3, rfl⟩ := list4 hyl
  have r0 := hg 0 (by omega)
  have r1 := hg 1 (by omega)
  have r2 := hg 2 (by omega)
  have r3 := hg 3 (by omega)
  simp [k26] at r0 r1 r2 r3
  obtain ⟨a2, e2, _, w2⟩ := DataW.trod_int Try.underlying26 r0
  obtain ⟨a3, e3, _, w3⟩ := DataW.trod_int Try.underlying26 r1
  obtain ⟨a4, e4, _, w4⟩ := DataW.trod_int Try.underlying26 r2
  obtain ⟨a5, e5, _, w5⟩ := DataW.trod_int Try.underlying26 r3
  have c0 := hcell 0 (by omega)
  have c1 := hcell 1 (by omega)
  have c2 := hcell 2 (by omega)
  have c3 := hcell 3 (by omega)
  have c4 := hcell 4 (by omega)
  have c5 := hcell 5 (by omega)
  have c6 := hcell 6 (by omega)
  rw [Deep.add_add, add_plain] at c0 c1 c2 c3 c4 c5 c6
  simp at e0 e1 e2 e3 e4 e5 e6
  subst e0; subst e1; subst e2; subst e3; subst e4; subst e5; subst e6
  have b2 := bounds_u64 w2
  have b3 := bounds_u64 w3
  have b4 := bounds_u64 w4
  have b5 := bounds_u64 w5
  exact ⟨⟨a0, a1, a2, a3, a4, a5, a6⟩, ⟨by simpa using c0, by simpa [Nat.add_assoc] using c1, by simpa [Nat.add_assoc] using c2, by simpa [Nat.add_assoc] using c3, by simpa [Nat.add_assoc] using c4, by simpa [Nat.add_assoc] using c5, by simpa [Nat.add_assoc] using c6⟩,
    ⟨b2.1, Int.lt_add_one_of_le b2.2⟩, ⟨b3.1, Int.lt_add_one_of_le b3.2⟩, ⟨b4.1, Int.lt_add_one_of_le b4.2⟩, ⟨b5.1, Int.lt_add_one_of_le b5.2⟩⟩

set_option maxRecDepth 100000 in
theorem lifted0 (os : Os) (started : os.Started) (H : Type) (enc : TypeId × Value → H) :
    ReturnsInHanded {} Try.checked os 3 .any (Rows.fnMatchNameAgreesWithSuffixTableSpec.pre6 enc Try.prog Try.f3 Rows.fnMatchNameAgreesWithSuffixTableRow.domain false) (Rows.fnMatchNameAgreesWithSuffixTableSpec.post enc Try.prog Try.f3 false true false false) := by
  refine returnsInHanded_of_change (C := Try.checked) own0 started (by kernel_rfl) Try.func3
    (ChangeSpec.witness6 (enc := enc) (C := Try.checked) false ⟨#[], #[.slice none 0 0, .string ⟨#[]⟩], []⟩ 8 (by kernel_rfl) (by kernel_rfl) (by kernel_rfl) (by kernel_rfl)) ?_
  intro W base args ds gs before hval0 hW hcnd _
  have hval : ∀ (j : Nat) t v, Try.f3.params[j]? = some t → args[j]? = some v → Value.okWide Try.prog W .any base t v := hval0
  have hW' := hW
  obtain ⟨p, q, hA0, hV, rfl, hfz, hnd⟩ := hW
  have hA : DataW.TrodAll enc Try.prog W 0 (fun _ => true) true Try.f3.params.toList args.toList ds p := hA0
  rw [Try.params3] at hA hval
  obtain ⟨v0, vs0, d0, ds0, p0, q0, hargs, rfl, rfl, h0, r0⟩ := trodAll_cons hA
  obtain ⟨v1, vs1, d1, ds1, p1, q1, rfl, rfl, rfl, h1, r1⟩ := trodAll_cons r0
  obtain ⟨rfl, rfl, rfl⟩ := trodAll_nil r1
  obtain rfl : args = #[v0, v1] := by cases args; simp_all
  obtain ⟨rfl, rfl⟩ := trodVars_none hV
  obtain ⟨a0, len0, cap0, rfl⟩ := okWide_slice Try.underlying22 (hval 0 22 v0 rfl rfl)
  obtain ⟨s, rfl, rfl, rfl, hs⟩ := open_string Try.underlying9 (hval 1 9 v1 rfl rfl) h1
  have k0 := h0
  have lt0 : ∀ x ∈ p0, x.block < W.heap.size := by obtain ⟨m, hm⟩ := k0; exact DataW.trod_lt m _ _ _ hm
  have w0 : IsToks W a0 len0 := by
    obtain ⟨fuel, hf⟩ := h0
    have c33 : Try.prog.cellsOf 33 = 7 := by kernel_rfl
    rcases Deep.open_slice Try.underlying22 hf with ⟨hcs, _⟩ | ⟨x, l, c, m, n, D, Pl, hcs, _, hl, hm, hmm, _, hcell⟩
    · simp [Value.cells] at hcs
      obtain ⟨rfl, rfl, rfl⟩ := hcs
      exact ⟨0, 0, fun _ => ⟨0, 0, 0, 0, 0, 0, false⟩, fun h => by omega, ⟨fun h => by omega, fun i h => by omega, fun i h => by omega, fun i h => by omega, fun i h => by omega, fun i h => by omega, fun i h => by omega, fun i h => by omega⟩, fun i h => by omega⟩
    · simp [Value.cells] at hcs
      obtain ⟨rfl, rfl, rfl⟩ := hcs
      by_cases hp : 0 < len0
      · have hmm' : m = cap0 := by simpa using hmm
        subst hmm'
        rw [c33] at hcell
        obtain ⟨b, off, spot⟩ := x
        have hspot : spot = none := by
          obtain ⟨cs', g1, _⟩ := hcell 0 (by omega)
          obtain ⟨_, hl3, hc⟩ := World.cells?_some g1
          obtain ⟨v0, v1, v2, v3, v4, v5, v6, rfl⟩ := list7 hl3
          have hc0 : W.cell? (((⟨b, off, spot⟩ : Addr).add (0 * 7)).add 0) = some v0 := hc 0 (by omega)
          simpa [Addr.add] using World.cell?_spot hc0
        subst hspot
        have each : ∀ i, i < len0 → ∃ t : Tk, (W.cell? ⟨b, off + i * 7, none⟩ = some (.int .i64 t.k) ∧ W.cell? ⟨b, off + i * 7 + 1, none⟩ = some (.int .u8 t.b) ∧ W.cell? ⟨b, off + i * 7 + 2, none⟩ = some (.int .u64 t.s0) ∧ W.cell? ⟨b, off + i * 7 + 3, none⟩ = some (.int .u64 t.s1) ∧
            W.cell? ⟨b, off + i * 7 + 4, none⟩ = some (.int .u64 t.s2) ∧ W.cell? ⟨b, off + i * 7 + 5, none⟩ = some (.int .u64 t.s3) ∧ W.cell? ⟨b, off + i * 7 + 6, none⟩ = some (.bool t.d)) ∧ t.ok := fun i hi => by
          obtain ⟨cs', g1, g2⟩ := hcell i (by omega)
          exact token_open g1 g2
        haveI : Inhabited Tk := ⟨⟨0, 0, 0, 0, 0, 0, false⟩⟩
        obtain ⟨q, hq⟩ := Deep.choose_lt each
        exact ⟨b, off, q, fun _ => rfl, ⟨fun _ => World.block_lt_of_cell? _ _ (hq 0 hp).1.1, fun i hi => (hq i hi).1.1, fun i hi => (hq i hi).1.2.1, fun i hi => (hq i hi).1.2.2.1, fun i hi => (hq i hi).1.2.2.2.1, fun i hi => (hq i hi).1.2.2.2.2.1, fun i hi => (hq i hi).1.2.2.2.2.2.1, fun i hi => (hq i hi).1.2.2.2.2.2.2⟩, fun i hi => (hq i hi).2⟩
      · exact ⟨0, 0, fun _ => ⟨0, 0, 0, 0, 0, 0, false⟩, fun h => by omega, ⟨fun h => by omega, fun i h => by omega, fun i h => by omega, fun i h => by omega, fun i h => by omega, fun i h => by omega, fun i h => by omega, fun i h => by omega⟩, fun i h => by omega⟩
  clear hA0 hval0
  refine (walk0 a0 len0 cap0 s W w0).mono fun e W' ⟨he, bel⟩ => ?_
  subst he
  exact ⟨_, rfl, _, _, _, [], _, [], hW', trodAll_mk1 (shut_bool Try.underlying4 _), (trodAll_cons_mk (Below.trod laid0 (by kernel_rfl) (of_decide_eq_true (by kernel_rfl)) k0 bel lt0) (trodAll_cons_mk (shut_string Try.underlying9 hs) trodAll_mk0)), rfl, bel.frame _, fun h => by cases h⟩

theorem over0 : Rows.fnMatchNameAgreesWithSuffixTableRow.holds Try.pinned (OpenSpec.ofChange Rows.fnMatchNameAgreesWithSuffixTableSpec) :=
  OpenClaim.holds_of_wide 3 Try.f3 rfl rfl rfl rfl rfl rfl rfl ⟨rfl, rfl, rfl, rfl, rfl⟩ rfl rfl rfl rfl rfl (by kernel_rfl) Try.func3 (by kernel_rfl)
    (of_decide_eq_true (by kernel_rfl)) (by unfold Func.isWrapper; first | (rw [if_pos (by decide +kernel)]; kernel_rfl) | (rw [if_neg (by decide +kernel)]; exact ⟨rfl, rfl⟩))
    (fun os started H enc _ => lifted0 os started H enc)

/-- THE STATEMENT. -/
theorem fnMatchNameAgreesWithSuffixTable_proved : Rows.FnMatchNameAgreesWithSuffixTableSaid := over0
#print axioms fnMatchNameAgreesWithSuffixTable_proved
end Go.Proofs.Qxb6617621a

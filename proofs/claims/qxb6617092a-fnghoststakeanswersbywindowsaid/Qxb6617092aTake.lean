/-
  THE WALKS OF 'take' AND OF 'ZZGhostsTake'.
-/
import Derived.Test.Qxb6617092aLawA
namespace Go.Proofs.Qxb6617092a
open Go.RowKit Go.Maps

theorem upd_none {R : Int → Option Nat} {h : Int} (e : R h = none) : upd R h none = R := by
  funext x
  unfold upd
  split
  · rename_i e'; rw [e', e]
  · rfl

set_option maxRecDepth 100000 in
theorem take_some (gb mb n : Nat) (v fz : Value) (all : List Int) (f : Nat) (R : Int → Option Nat) (D : DataW Unit) (h : Int) (w : World) (hbox : w.heap[gb]? = some (.cells #[v, fz, .map (some mb)] 42 (0, 0)))
    (hown : w.ownsMap Try.prog 24 (plainElem Try.prog 24) mb n D) (hrem : Rem D all f R) (hwh : (Lit.int .u64 h).wf = true) :
    Calls Try.prog 11 #[.pointer (some ⟨gb, 0, none⟩), .int .u64 h] w fun e w' => e = .returned (.bool (R h).isSome) ∧ ∃ D', w'.ownsMap Try.prog 24 (plainElem Try.prog 24) mb n D' ∧ Rem D' all f (upd R h none) ∧ w.mapTurned w' mb := by
  obtain ⟨_, _, c2, _, _, _⟩ := box_cells hbox
  have hkey := keyOf_int_mk Try.underlying24 hwh
  cases hR : R h with
  | none =>
    have hlk := look_none hown hrem hwh hR
    have HR : Hid (R h = none) := hR
    clear hR
    go_enter Try.func11, Try.ntmps11
    go_wp2
    go_ret
    exact ⟨rfl, D, hown, by rw [upd_none HR.out]; exact hrem, hown.turned_refl⟩
  | some j =>
    have hlk := look_rem hown hrem hwh hR
    have HR : Hid (R h = some j) := hR
    clear hR
    go_enter Try.func11, Try.ntmps11
    go_wp2_with (first
      | (at_delete; refine wpList_delete_own _ rfl _ _ 28 24 rfl 24 law24 Try.underlying28 _ mb n D rfl hown _ _ rfl hkey ?_; intro w3 hown3 hturn3))
    go_ret
    exact ⟨rfl, _, hown3, hrem.forget HR.out, hturn3⟩

set_option maxRecDepth 100000 in
theorem take_nil (gb : Nat) (v fz : Value) (h : Int) (w : World) (hbox : w.heap[gb]? = some (.cells #[v, fz, .map none] 42 (0, 0))) (hwh : (Lit.int .u64 h).wf = true) :
    Calls Try.prog 11 #[.pointer (some ⟨gb, 0, none⟩), .int .u64 h] w fun e w' => e = .returned (.bool false) ∧ w' = w := by
  obtain ⟨_, _, c2, _, _, _⟩ := box_cells hbox
  have hlk := look_nil (w := w) true law24 Try.underlying28 (zero24 _) (keyOf_int_mk Try.underlying24 hwh)
  go_enter Try.func11, Try.ntmps11
  go_wp2
  go_ret
  exact ⟨rfl, rfl⟩

theorem GV.kept {B : Nat} {ao : Option Addr} {cap : Nat} {r : Option Nat} {all : List Int} {f : Nat} {R : Int → Option Nat} {w w' : World} (h : GV B ao cap r all f R w) (hk : ∀ k, B ≤ k → k < w.heap.size → w'.heap[k]? = w.heap[k]?) : GV B ao cap r all f R w' := by
  rcases h with h | ⟨mb, n, D, hr, hB, hrow, hn, hown, hrem, hf⟩
  · exact .inl h
  · refine .inr ⟨mb, n, D, hr, hB, hrow.kept (fun g _ hg hc => hk g hg (lt_of_block hc)), hn, ?_, hrem, hf⟩
    obtain ⟨es, clock, hb, q⟩ := hown
    exact ⟨es, clock, by rw [hk mb hB (lt_of_block hb)]; exact hb, q⟩

set_option maxRecDepth 100000 in
set_option maxHeartbeats 400000 in
theorem ztake_any (B : Nat) (ao : Option Addr) (cap : Nat) (r : Option Nat) (all : List Int) (L f : Nat) (R : Int → Option Nat) (h : Int) (w : World) (hL : all.length = L) (hs : GV B ao cap r all f R w) (hBw : B ≤ w.heap.size) (hwh : (Lit.int .u64 h).wf = true) :
    Calls Try.prog 9 #[.slice ao (L - f) cap, .int .u64 f, .map r, .int .u64 h] w fun e w' =>
      e = .returned (.tuple #[.slice ao (L - f) cap, .int .u64 f, .map r, .bool (R h).isSome]) ∧ GV B ao cap r all f (upd R h none) w' ∧ Fr B w w' := by
  have hb : (w.alloc (.cells #[.slice ao (L - f) cap, .int .u64 f, .map r] 42)).heap[w.heap.size]? = some (.cells #[.slice ao (L - f) cap, .int .u64 f, .map r] 42 (0, 0)) := heap_alloc_new w _
  rcases hs with ⟨rfl, rfl, rfl, rfl, rfl, hR⟩ | ⟨mb, n, D, rfl, hB, hrow, hn, hown, hrem, hf⟩
  · have hRh := hR h
    have HRR : Hid (∀ x, R x = none) := hR
    clear hR
    obtain ⟨c0, c1, c2, _, _, _⟩ := box_cells hb
    go_enter Try.func9, Try.ntmps9
    go_wp2_with fail
    refine (take_nil w.heap.size _ _ h _ hb hwh).mono ?_
    rintro e w1 ⟨rfl, rfl⟩
    go_wp2
    go_quiet (fail)
    go_wp2
    refine bodyPost_ret (v := .tuple #[.slice none (L - 0) 0, .int .u64 ((0 : Nat) : Int), .map none, .bool false]) (by simp [results, Try.results9, go_sem]) rfl ⟨by rw [HRR.out h]; rfl, .inl ⟨rfl, rfl, rfl, rfl, rfl, fun x => ?_⟩, Fr.heap ((Fr.refl _ _).alloc hBw _) (below_drewN (Below.refl _ _) _) rfl⟩
    unfold upd
    split
    · rfl
    · exact HRR.out x
  · go_enter Try.func9, Try.ntmps9
    go_wp2_with fail
    refine (take_some w.heap.size mb n _ _ all f R D h _ hb (hown.alloc _) hrem hwh).mono ?_
    rintro e w1 ⟨rfl, D', hown', hrem', hturn⟩
    have hb1 := box_turned hturn hb
    obtain ⟨c0, c1, c2, _, _, _⟩ := box_cells hb1
    have HG : GV B ao cap (some mb) all f (upd R h none) w1 := .inr ⟨mb, n, D', rfl, hB, (hrow.alloc _).mapTurned hturn, hn, hown', hrem', hf⟩
    have HB : Fr B w w1 := ((Fr.refl B w).alloc hBw _).turned hturn hB (by simp; omega)
    clear hown hown' hrem hrem' hturn hrow hb hb1
    go_wp2
    go_quiet (fail)
    go_wp2
    exact bodyPost_ret (v := .tuple #[.slice ao (L - f) cap, .int .u64 f, .map (some mb), .bool (R h).isSome]) (by simp [results, Try.results9, go_sem]) rfl ⟨rfl, HG.drewN rfl, Fr.heap HB (below_drewN (Below.refl _ _) _) rfl⟩
end Go.Proofs.Qxb6617092a

/-
  THE WALK OF 'ZZGhostsAdd'.
-/
import Derived.Test.Qxb6617092aAdd
import Derived.OwnWalk
import Derived.WalkSmall
namespace Go.Proofs.Qxb6617092a
open Go.RowKit Go.Maps

/-- THE GHOSTS BY THEIR THREE VALUES: nothing has been added; or the row, the count, the map. -/
def GV (B : Nat) (ao : Option Addr) (cap : Nat) (r : Option Nat) (all : List Int) (f : Nat) (R : Int → Option Nat) (w : World) : Prop :=
  (ao = none ∧ cap = 0 ∧ r = none ∧ all = [] ∧ f = 0 ∧ ∀ x, R x = none) ∨
  ∃ mb n D, r = some mb ∧ B ≤ mb ∧ RowAt w B (.slice ao (all.length - f) cap) (all.length - f) (fun j => nth all (f + j)) ∧ n ≤ all.length ∧ w.ownsMap Try.prog 24 (plainElem Try.prog 24) mb n D ∧ Rem D all f R ∧ f ≤ all.length

theorem GV.boxed {B : Nat} {ao : Option Addr} {cap : Nat} {r : Option Nat} {all : List Int} {f : Nat} {R : Int → Option Nat} {w : World} (h : GV B ao cap r all f R w) :
    Start B w.heap.size all f R (w.alloc (.cells #[.slice ao (all.length - f) cap, .int .u64 f, .map r] 42)) := by
  have hb : (w.alloc (.cells #[.slice ao (all.length - f) cap, .int .u64 f, .map r] 42)).heap[w.heap.size]? = some (.cells #[.slice ao (all.length - f) cap, .int .u64 f, .map r] 42 (0, 0)) := heap_alloc_new w _
  rcases h with ⟨rfl, rfl, rfl, rfl, rfl, hR⟩ | ⟨mb, n, D, rfl, hB, hrow, hn, hown, hrem, hf⟩
  · exact .inl ⟨hb, rfl, rfl, hR⟩
  · exact .inr ⟨mb, hB, ao, cap, n, D, hb, hrow.alloc _, hn, hown.alloc _, hrem, hf, Fr.refl _ _⟩

theorem GV.out {B gb mb : Nat} {all : List Int} {f : Nat} {R : Int → Option Nat} {w0 w : World} (h : St B w0 gb mb all f R w) (hB : B ≤ mb) :
    ∃ ao cap, w.heap[gb]? = some (.cells #[.slice ao (all.length - f) cap, .int .u64 f, .map (some mb)] 42 (0, 0)) ∧ GV B ao cap (some mb) all f R w ∧ Fr B w0 w := by
  obtain ⟨ao, cap, n, D, hb, hrow, hn, hown, hrem, hf, hbel⟩ := h
  exact ⟨ao, cap, hb, .inr ⟨mb, n, D, rfl, hB, hrow, hn, hown, hrem, hf⟩, hbel⟩

theorem GV.drewN {B : Nat} {ao : Option Addr} {cap : Nat} {r : Option Nat} {all : List Int} {f : Nat} {R : Int → Option Nat} {w w' : World} (h : GV B ao cap r all f R w) (hh : w'.heap = w.heap) : GV B ao cap r all f R w' := by
  rcases h with h | ⟨mb, n, D, hr, hB, hrow, hn, hown, hrem, hf⟩
  · exact .inl h
  · refine .inr ⟨mb, n, D, hr, hB, hrow.kept (fun g _ _ _ => by rw [hh]), hn, ?_, hrem, hf⟩
    obtain ⟨es, clock, hb, q⟩ := hown
    exact ⟨es, clock, by rw [hh]; exact hb, q⟩

set_option maxRecDepth 100000 in
set_option maxHeartbeats 400000 in
theorem zadd_at (B : Nat) (ao : Option Addr) (cap : Nat) (r : Option Nat) (all : List Int) (f : Nat) (R : Int → Option Nat) (h : Int) (lim : Nat) (w : World) (hs : GV B ao cap r all f R w) (hBw : B ≤ w.heap.size) (hlen : all.length < 4096) (hlim : lim ≤ 9223372036854775807)
    (hwh : (Lit.int .u64 h).wf = true) (hwall : ∀ j, (Lit.int .u64 (nth all j)).wf = true) :
    Calls Try.prog 6 #[.slice ao (all.length - f) cap, .int .u64 f, .map r, .int .u64 h, .int .i64 lim] w fun e w' => ∃ ao' cap' r',
      e = .returned (.tuple #[.slice ao' (all.length + 1 - (max f (all.length + 1 - lim))) cap', .int .u64 ((max f (all.length + 1 - lim) : Nat) : Int), .map r']) ∧
      GV B ao' cap' r' (all ++ [h]) (max f (all.length + 1 - lim)) (dropTo (upd R h (some all.length)) (max f (all.length + 1 - lim))) w' ∧ Fr B w w' := by
  have hst := hs.boxed
  obtain ⟨f', hf'⟩ : ∃ f', f' = max f (all.length + 1 - lim) := ⟨_, rfl⟩
  rw [← hf']
  have HF : Hid (f' = max f (all.length + 1 - lim)) := hf'
  clear hf'
  go_enter Try.func6, Try.ntmps6
  go_wp2_with fail
  refine (add_any B w.heap.size all f R h lim _ hst hBw (by simp; omega) hlen hlim hwh hwall).mono ?_
  rintro e w1 ⟨rfl, mb, hBmb, hSt⟩
  rw [← HF.out] at hSt
  obtain ⟨ao', cap', hbox, hgv, hbel⟩ := GV.out hSt hBmb
  obtain ⟨c0, c1, c2, _, _, _⟩ := box_cells hbox
  clear hSt hst hs
  go_wp2
  go_quiet (fail)
  go_wp2
  go_ret3
  exact ⟨ao', cap', some mb, rfl, hgv.drewN rfl, Fr.heap (((Fr.refl _ _).alloc hBw _).trans hbel) (below_drewN (Below.refl _ _) _) rfl⟩

/-- The same, the number of adds so far under a name of its own. -/
theorem zadd_any (B : Nat) (ao : Option Addr) (cap : Nat) (r : Option Nat) (all : List Int) (L f : Nat) (R : Int → Option Nat) (h : Int) (lim : Nat) (w : World) (hL : all.length = L) (hs : GV B ao cap r all f R w) (hBw : B ≤ w.heap.size) (hlen : L < 4096) (hlim : lim ≤ 9223372036854775807)
    (hwh : (Lit.int .u64 h).wf = true) (hwall : ∀ j, (Lit.int .u64 (nth all j)).wf = true) :
    Calls Try.prog 6 #[.slice ao (L - f) cap, .int .u64 f, .map r, .int .u64 h, .int .i64 lim] w fun e w' => ∃ ao' cap' r' f', Hid (f' = max f (L + 1 - lim)) ∧
      e = .returned (.tuple #[.slice ao' (L + 1 - f') cap', .int .u64 (f' : Int), .map r']) ∧
      GV B ao' cap' r' (all ++ [h]) f' (dropTo (upd R h (some L)) f') w' ∧ Fr B w w' := by
  subst hL
  refine (zadd_at B ao cap r all f R h lim w hs hBw hlen hlim hwh hwall).mono ?_
  rintro e w' ⟨ao', cap', r', he, hgv, hbel⟩
  exact ⟨ao', cap', r', _, rfl, he, hgv, hbel⟩

end Go.Proofs.Qxb6617092a

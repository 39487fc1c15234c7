/-
  THE WALKS OF 'add' AND OF 'ZZGhostsAdd'.
-/
import Derived.Test.Qxb6617092aWorld
import Derived.Deep.LoopGhost
import Derived.Deep.DeepCutAuto
import Derived.Deep.QuietTactic
import Derived.BigQuiet
import Derived.Deep.Light
namespace Go.Proofs.Qxb6617092a
open Go.RowKit Go.Maps

/-- What is remembered when all places below f are gone. -/
def dropTo (R : Int → Option Nat) (f : Nat) : Int → Option Nat := fun x => match R x with
  | some j => if j < f then none else some j
  | none => none

/-- THE GHOSTS AT gb: the row, the count of what has been dropped, the map. -/
def St (B : Nat) (w0 : World) (gb mb : Nat) (all : List Int) (f : Nat) (R : Int → Option Nat) (w : World) : Prop :=
  ∃ ao cap n D, w.heap[gb]? = some (.cells #[.slice ao (all.length - f) cap, .int .u64 f, .map (some mb)] 42 (0, 0)) ∧ RowAt w B (.slice ao (all.length - f) cap) (all.length - f) (fun j => nth all (f + j)) ∧
    n ≤ all.length ∧ w.ownsMap Try.prog 24 (plainElem Try.prog 24) mb n D ∧ Rem D all f R ∧ f ≤ all.length ∧ Fr B w0 w

theorem box_cells {w : World} {gb : Nat} {a b c : Value} {t : TypeId} (h : w.heap[gb]? = some (.cells #[a, b, c] t (0, 0))) :
    w.cell? ⟨gb, 0, none⟩ = some a ∧ w.cell? ⟨gb, 1, none⟩ = some b ∧ w.cell? ⟨gb, 2, none⟩ = some c ∧ w.frozen? ⟨gb, 0, none⟩ = false ∧ w.frozen? ⟨gb, 1, none⟩ = false ∧ w.frozen? ⟨gb, 2, none⟩ = false := by
  simp [World.cell?, World.frozen?, h]

theorem box_turned {w w' : World} {gb b : Nat} {cur : Array Value} {t : TypeId} {fr : Nat × Nat} (ht : w.mapTurned w' b) (h : w.heap[gb]? = some (.cells cur t fr)) : w'.heap[gb]? = some (.cells cur t fr) := by
  obtain ⟨es, clock, _, _, hb, _⟩ := id ht
  rw [ht.grown.block gb (lt_of_block h) (fun e => by
    obtain rfl : gb = b := by simpa using e
    rw [h] at hb; cases hb)]
  exact h
theorem box_alloc {w : World} {gb : Nat} {x : Obj} (h : w.heap[gb]? = some x) (o : Obj) : (w.alloc o).heap[gb]? = some x := (Below.heap_alloc w o gb (lt_of_block h)).trans h
theorem box_turn {B : Nat} {w w' : World} {gb : Nat} {cur : Array Value} {fr : Nat × Nat} (ht : Turn B w w') (h : w.heap[gb]? = some (.cells cur 42 fr)) : w'.heap[gb]? = some (.cells cur 42 fr) :=
  (ht.block gb (lt_of_block h) (fun c e => by rw [h] at e; simp at e)).trans h
theorem wf_snoc {all : List Int} {h : Int} (hwall : ∀ j, (Lit.int .u64 (nth all j)).wf = true) (hwh : (Lit.int .u64 h).wf = true) (j : Nat) : (Lit.int .u64 (nth (all ++ [h]) j)).wf = true := by
  by_cases hj : j < all.length
  · rw [nth_snoc_lt _ _ hj]; exact hwall j
  · by_cases hj' : j = all.length
    · subst hj'; rw [nth_snoc_at]; exact hwh
    · have e : nth (all ++ [h]) j = 0 := by
        unfold nth
        rw [List.getD_eq_getElem?_getD, List.getElem?_eq_none (by simp; omega)]
        rfl
      rw [e]
      decide
theorem map_turn {B : Nat} {w w' : World} {mb n : Nat} {D : DataW Unit} (ht : Turn B w w') (h : w.ownsMap Try.prog 24 (plainElem Try.prog 24) mb n D) : w'.ownsMap Try.prog 24 (plainElem Try.prog 24) mb n D := by
  obtain ⟨es, clock, hb, r⟩ := h
  exact ⟨es, clock, by rw [ht.block mb (lt_of_block hb) (fun c e => by rw [hb] at e; cases e)]; exact hb, r⟩
theorem dropTo_start {D : DataW Unit} {all : List Int} {f : Nat} {R : Int → Option Nat} (r : Rem D all f R) : dropTo R f = R := by
  funext x
  unfold dropTo
  cases hx : R x with
  | none => rfl
  | some j => have := (r.idx x j hx).1; simp; omega
theorem dropR_dropTo (R : Int → Option Nat) (f : Nat) : dropR (dropTo R f) f = dropTo R (f + 1) := by
  funext x
  unfold dropR dropTo
  cases hx : R x with
  | none => simp
  | some j =>
    by_cases h1 : j < f
    · simp [h1]; omega
    · by_cases h2 : j = f
      · subst h2; simp
      · have h3 : ¬ j < f + 1 := by omega
        simp [h1, h2, h3]

theorem st_put {B gb mb f n cap cap2 : Nat} {ao ao2 : Option Addr} {all : List Int} {R : Int → Option Nat} {h : Int} {D : DataW Unit} {w0 w w1 w2 : World} {o : Obj} (hbel : Fr B w0 w) (hB1 : B ≤ gb) (hB2 : B ≤ mb) (hfle : f ≤ all.length) (hn : n ≤ all.length) (hrem : Rem D all f R)
    (hown1 : w1.ownsMap Try.prog 24 (plainElem Try.prog 24) mb (n + 1) (D.put (.int .u64 h) (.lit (.int .u64 all.length)))) (hturn1 : w.drew.mapTurned w1 mb) (hturn2 : Turn B (w1.alloc o) w2)
    (hbox2 : w2.heap[gb]? = some (.cells #[.slice ao (all.length - f) cap, .int .u64 f, .map (some mb)] 42 (0, 0)))
    (hrow2 : RowAt w2 B (.slice ao2 (all.length - f + 1) cap2) (all.length - f + 1) (snocF (all.length - f) (fun j => nth all (f + j)) h)) (hB : B ≤ w.heap.size) :
    St B w0 gb mb (all ++ [h]) f (dropTo (upd R h (some all.length)) f) (w2.setCell ⟨gb, 0, none⟩ (.slice ao2 (all.length - f + 1) cap2)) := by
  have el : (all ++ [h]).length - f = all.length - f + 1 := by rw [List.length_append, List.length_singleton]; omega
  have hown2 : w2.ownsMap Try.prog 24 (plainElem Try.prog 24) mb (n + 1) (D.put (.int .u64 h) (.lit (.int .u64 all.length))) := map_turn hturn2 (hown1.alloc o)
  have hne : mb ≠ gb := fun e => by
    subst e
    obtain ⟨es, clock, hb, _⟩ := hown2
    rw [hbox2] at hb; cases hb
  refine ⟨ao2, cap2, n + 1, _, ?_, ?_, by simp; omega, hown2.setCell (a := ⟨gb, 0, none⟩) hne _, ?_, by simp; omega, ?_⟩
  · rw [heap_setCell_same hbox2, el]
    rfl
  · rw [el]
    refine (hrow2.setCell hbox2 (by decide) _).congr rfl fun j hj => ?_
    unfold snocF
    by_cases hj' : j < all.length - f
    · rw [if_pos hj', nth_snoc_lt _ _ (by omega)]
    · rw [if_neg hj', show f + j = all.length by omega, nth_snoc_at]
  · have r := hrem.put hfle h
    rw [dropTo_start r]
    exact r
  · refine Fr.setCell ?_ hB1 hbox2 (by decide) _
    refine Fr.turn ?_ hturn2
    exact Fr.alloc (hbel.drew.turned hturn1 hB2 hB) (Nat.le_trans hB hturn1.grown.size) o

theorem st_drop {B gb mb f L n cap g off : Nat} {all : List Int} {R : Int → Option Nat} {D : DataW Unit} {w w3 : World} (hL : all.length = L)
    (hbox : w3.heap[gb]? = some (.cells #[.slice (some ⟨g, off, none⟩) (L - f) cap, .int .u64 f, .map (some mb)] 42 (0, 0))) (hrow : RowAt w3 B (.slice (some ⟨g, off, none⟩) (L - f) cap) (L - f) (fun j => nth all (f + j))) (hlt : f < L) (hn : n ≤ L)
    (hown : w3.ownsMap Try.prog 24 (plainElem Try.prog 24) mb n D) (hrem : Rem D all (f + 1) R) (hbel : Fr B w w3) (hB1 : B ≤ gb) {ao : Option Addr} {cap3 : Nat} (hao : (ao = some ⟨g, off + 1, none⟩ ∧ cap3 = cap - 1) ∨ (cap = 1 ∧ cap3 = 0)) :
    St B w gb mb all (f + 1) R ((w3.setCell ⟨gb, 0, none⟩ (.slice ao (L - f - 1) cap3)).setCell ⟨gb, 1, none⟩ (.int .u64 (f + 1))) := by
  subst hL
  obtain rfl : cap3 = cap - 1 := by omega
  have hne : mb ≠ gb := fun e => by
    subst e
    obtain ⟨es, clock, hb, _⟩ := hown
    rw [hbox] at hb; cases hb
  have hb1 : (w3.setCell ⟨gb, 0, none⟩ (.slice ao (all.length - f - 1) (cap - 1))).heap[gb]? = some (.cells #[.slice ao (all.length - f - 1) (cap - 1), .int .u64 f, .map (some mb)] 42 (0, 0)) := heap_setCell_same hbox _
  have e1 : all.length - (f + 1) = all.length - f - 1 := by omega
  refine ⟨ao, cap - 1, n, D, ?_, ?_, hn, (hown.setCell (a := ⟨gb, 0, none⟩) hne _).setCell (a := ⟨gb, 1, none⟩) hne _, hrem, by omega, (hbel.setCell hB1 hbox (by decide) _).setCell hB1 hb1 (by decide) _⟩
  · rw [e1, heap_setCell_same hb1]
    rfl
  · rw [e1]
    have h2 := hrow.tail (by omega) ao (fun hc g' off' e => by
      obtain ⟨rfl, rfl⟩ : g = g' ∧ off = off' := by simpa using e
      rcases hao with h | h
      · exact h.1
      · omega)
    exact ((h2.setCell hbox (by decide) _).setCell hb1 (by decide) _).congr rfl fun j _ => by
      show nth all (f + (j + 1)) = nth all (f + 1 + j)
      rw [show f + (j + 1) = f + 1 + j by omega]

/-- AHEAD OF 'add': the map is nil and nothing has been added; or all is as 'St' says. -/
def Start (B gb : Nat) (all : List Int) (f : Nat) (R : Int → Option Nat) (w : World) : Prop :=
  (w.heap[gb]? = some (.cells #[.slice none 0 0, .int .u64 0, .map none] 42 (0, 0)) ∧ all = [] ∧ f = 0 ∧ (∀ x, R x = none)) ∨ ∃ mb, B ≤ mb ∧ St B w gb mb all f R w

theorem Start.cell {B gb : Nat} {all : List Int} {f : Nat} {R : Int → Option Nat} {w : World} (h : Start B gb all f R w) : ∃ v fz mv, w.cell? ⟨gb, 2, none⟩ = some (.map mv) ∧ w.heap[gb]? = some (.cells #[v, fz, .map mv] 42 (0, 0)) := by
  rcases h with ⟨h, _⟩ | ⟨mb, _, ao, cap, n, D, h, _⟩
  · exact ⟨_, _, _, (box_cells h).2.2.1, h⟩
  · exact ⟨_, _, _, (box_cells h).2.2.1, h⟩

theorem Start.st {B gb mb : Nat} {all : List Int} {f : Nat} {R : Int → Option Nat} {w : World} {v fz : Value} (h : Start B gb all f R w) (hb : w.heap[gb]? = some (.cells #[v, fz, .map (some mb)] 42 (0, 0))) : B ≤ mb ∧ St B w gb mb all f R w := by
  rcases h with ⟨h, _⟩ | ⟨mb', h1, ao, cap, n, D, h, r⟩
  · rw [h] at hb; simp at hb
  · have hb' := hb
    rw [h] at hb'
    simp at hb'
    obtain ⟨_, _, rfl⟩ := hb'
    exact ⟨h1, ao, cap, n, D, h, r⟩

theorem Start.made {B gb : Nat} {all : List Int} {f : Nat} {R : Int → Option Nat} {w : World} {v fz : Value} (h : Start B gb all f R w) (hb : w.heap[gb]? = some (.cells #[v, fz, .map none] 42 (0, 0))) (hB1 : B ≤ gb) (hBw : B ≤ w.heap.size) :
    ∃ mb, B ≤ mb ∧ B ≤ ((w.alloc (.map #[] 0)).setCell ⟨gb, 2, none⟩ (.map (some w.heap.size))).heap.size ∧ St B w gb mb all f R ((w.alloc (.map #[] 0)).setCell ⟨gb, 2, none⟩ (.map (some w.heap.size))) := by
  rcases h with ⟨h, rfl, rfl, hR⟩ | ⟨mb', h1, ao, cap, n, D, h, r⟩
  · have hbx := box_alloc h (.map #[] 0)
    have hlt := lt_of_block h
    have hown := World.ownsMap_made (H := Unit) w Try.prog 24 (plainElem Try.prog 24)
    refine ⟨w.heap.size, hBw, ?_, none, 0, 0, .map [], ?_, RowAt.nil _ _ _, Nat.le_refl _, hown.setCell (a := ⟨gb, 2, none⟩) (by show w.heap.size ≠ gb; omega) _, ?_, Nat.le_refl _, ((Fr.refl _ _).alloc hBw _).setCell hB1 hbx (by decide) _⟩
    · simp [World.setCell]; omega
    · rw [heap_setCell_same hbx]; rfl
    · have e : R = fun _ => none := funext hR
      rw [e]
      exact Rem.start
  · rw [h] at hb; simp at hb

set_option maxRecDepth 100000 in
set_option maxHeartbeats 1000000 in
theorem add_any (B gb : Nat) (all : List Int) (f : Nat) (R : Int → Option Nat) (h : Int) (lim : Nat) (w0 : World) (hs : Start B gb all f R w0) (hB1 : B ≤ gb) (hBw0 : B ≤ w0.heap.size) (hlen : all.length < 4096) (hlim : lim ≤ 9223372036854775807)
    (hwh : (Lit.int .u64 h).wf = true) (hwall : ∀ j, (Lit.int .u64 (nth all j)).wf = true) :
    Calls Try.prog 10 #[.pointer (some ⟨gb, 0, none⟩), .int .u64 h, .int .i64 lim] w0 fun e w' => e = .returned (.tuple #[]) ∧
      ∃ mb, B ≤ mb ∧ St B w0 gb mb (all ++ [h]) (max f (all.length + 1 - lim)) (dropTo (upd R h (some all.length)) (max f (all.length + 1 - lim))) w' := by
  have q28 : ∀ (w : World) (r : Option Nat), (binOp .eql 28 (.map r) (.map none)).run Try.prog w = .ok (.bool r.isNone) w := fun w r => run_eql_map_nil w _ _ _ r Try.underlying28
  have hmm := @run_makeMap Try.prog
  have hmv : ∃ v fz mv, w0.cell? ⟨gb, 2, none⟩ = some (.map mv) ∧ w0.heap[gb]? = some (.cells #[v, fz, .map mv] 42 (0, 0)) := hs.cell
  obtain ⟨v, fz, mv, hm0, hbox0⟩ := hmv
  go_enter Try.func10, Try.ntmps10
  go_upto_if 11 with fail
  go_cut [] (fun wc => ∃ mb, B ≤ mb ∧ B ≤ wc.heap.size ∧ St B w0 gb mb all f R wc)
  case first =>
    cases mv with
    | none =>
      have f2 : ∀ o, (w0.alloc o).frozen? ⟨gb, 2, none⟩ = false := fun o => (box_cells (box_alloc hbox0 o)).2.2.2.2.2
      have c2 : ∀ o, (w0.alloc o).cell? ⟨gb, 2, none⟩ = some (.map none) := fun o => (box_cells (box_alloc hbox0 o)).2.2.1
      go_wp2
      go_meet
      case rel => exact hs.made hbox0 hB1 hBw0
    | some mb =>
      go_wp2
      go_meet
      case rel => exact ⟨mb, (hs.st hbox0).1, hBw0, (hs.st hbox0).2⟩
  case rest =>
  obtain ⟨mb, hB2, hBw, hs1⟩ := hcut
  clear hs hm0 hbox0
  generalize wc = w at *
  obtain ⟨ao, cap, n, D, hbox, hrow, hn, hown, hrem, hfle, hbel⟩ := hs1
  obtain ⟨c0, c1, c2, f0, f1, f2⟩ := box_cells hbox
  have hkey := keyOf_int_mk Try.underlying24 hwh
  obtain ⟨w1, hrun, hown1, hturn1⟩ := hown.drew.store law24 Try.underlying28 (by unfold maxLen; omega) hkey (plainElem_int (a := (all.length : Int)) Try.underlying24 (WalkArith.wf_u64 (by omega)))
  have e1 : (f : Int) + ((all.length - f : Nat) : Int) = all.length := by omega
  go_wp2
  go_region
  have hbox1 : w1.heap[gb]? = some (.cells #[.slice ao (all.length - f) cap, .int .u64 f, .map (some mb)] 42 (0, 0)) := box_turned (w := w.drew) hturn1 hbox
  have hrow1 := hrow.drew.mapTurned hturn1
  have hsz1 : w.heap.size ≤ w1.heap.size := hturn1.grown.size
  have hgbl := lt_of_block hbox
  clear c0 c1 c2 f0 f1 f2
  obtain ⟨c0, c1, c2, f0, f1, f2⟩ := box_cells hbox1
  go_wp2_with (first
    | (at_builtin; refine wpList_append_rowAt _ rfl _ _ rfl (B := B) rfl (hrow1.alloc _) (by simp; omega) (by omega) ⟨w1.heap.size, 0, none⟩ h rfl (by simp [World.cell?_alloc_new]) ?_; intro ao2 cap2 w2 hrow2 hturn2; have hbox2 := box_turn hturn2 (box_alloc hbox1 _); clear c0 c1 c2 f0 f1 f2; obtain ⟨c0, c1, c2, f0, f1, f2⟩ := box_cells hbox2))
  have hS : St B w0 gb mb (all ++ [h]) f (dropTo (upd R h (some all.length)) f) (w2.setCell ⟨gb, 0, none⟩ (.slice ao2 (all.length - f + 1) cap2)) :=
    st_put hbel hB1 hB2 hfle hn hrem hown1 hturn1 hturn2 hbox2 hrow2 hBw
  clear hrun hown hown1 hturn1 hturn2 hbox hbox1 hbox2 hrow hrow1 hrow2 hrem c0 c1 c2 f0 f1 f2 hbel hkey
  go_loopg [6] (all.length + 1 - f) (fun k _ wr => ∃ f', k = all.length + 1 - f' ∧ f ≤ f' ∧ f' ≤ max f (all.length + 1 - lim) ∧ St B w0 gb mb (all ++ [h]) f' (dropTo (upd R h (some all.length)) f') wr)
  case atStart => exact ⟨f, rfl, Nat.le_refl _, Nat.le_max_left _ _, hS⟩
  case round =>
    obtain ⟨f', hk, hf1, hf2, hSt⟩ := hrel
    clear hS
    obtain ⟨ao', cap', n', D', hbox, hrow, hn', hown, hrem, hfle', hbel⟩ := hSt
    rw [List.length_append, List.length_singleton] at hbox hrow hn' hfle'
    obtain ⟨c0, c1, c2, f0, f1, f2⟩ := box_cells hbox
    by_cases hlt : lim < all.length + 1 - f'
    · obtain ⟨g, off, rfl, hBg, hcell⟩ := hrow.cell (by omega)
      have hc := hcell 0 (by omega)
      rw [Nat.add_zero] at hc
      obtain ⟨x0, hx0⟩ : ∃ x0, x0 = nth (all ++ [h]) (f' + 0) := ⟨_, rfl⟩
      rw [← hx0] at hc
      have HX : Hid (x0 = nth (all ++ [h]) (f' + 0)) := hx0
      clear hx0
      have hwx : (Lit.int .u64 x0).wf = true := by rw [HX.out]; exact wf_snoc hwall hwh _
      have hkeyx := keyOf_int_mk Try.underlying24 hwx
      obtain ⟨c, hrun, hat, _⟩ := hown.drew.lookup_int law24 Try.underlying28 Try.underlying24 (zero24 _) hkeyx
      by_cases hcf : c = (f' : Int)
      · have hcb : (c == (f' : Int)) = true := by simp [hcf]
        have HC : Hid (c = (f' : Int)) := hcf
        clear hcf
        go_wp2
        go_region
        go_wp2_with (first
          | (at_delete; refine wpList_delete_own _ rfl _ _ 28 24 rfl 24 law24 Try.underlying28 _ mb n' D' rfl hown.drew _ _ rfl hkeyx ?_; intro w3 hown3 hturn3; have hbox3 := box_turned hturn3 (show wr.drew.heap[gb]? = _ from hbox); clear c0 c1 c2 f0 f1 f2; obtain ⟨c0, c1, c2, f0, f1, f2⟩ := box_cells hbox3))
        all_goals
          go_roundg (all.length + 1 - (f' + 1))
          case measure => omega
          case rel =>
            go_light
            refine ⟨f' + 1, rfl, by omega, by omega, ?_⟩
            refine st_drop (by simp) hbox3 (hrow.drew.mapTurned hturn3) (by omega) hn' hown3 ?_ (hbel.drew.turned hturn3 hB2 (Nat.le_trans hBw0 hbel.below.size)) hB1 (by first | exact .inl ⟨rfl, rfl⟩ | exact .inr ⟨by assumption, rfl⟩)
            rw [← dropR_dropTo]
            have h1 := HX.out
            have h2 := HC.out
            rw [Nat.add_zero] at h1
            subst h1; subst h2
            exact hrem.hit hat
      · have hcb : (c == (f' : Int)) = false := by simp [hcf]
        have HC : Hid (c ≠ (f' : Int)) := hcf
        clear hcf
        go_wp2
        go_region
        go_wp2
        all_goals
          go_roundg (all.length + 1 - (f' + 1))
          case measure => omega
          case rel =>
            go_light
            refine ⟨f' + 1, rfl, by omega, by omega, ?_⟩
            refine st_drop (w3 := wr.drew) (by simp) hbox hrow.drew (by omega) hn' hown.drew ?_ hbel.drew hB1 (by first | exact .inl ⟨rfl, rfl⟩ | exact .inr ⟨by assumption, rfl⟩)
            rw [← dropR_dropTo]
            have h1 := HX.out
            rw [Nat.add_zero] at h1
            subst h1
            exact hrem.miss hat HC.out
    · go_wp2
      go_end0
      have ef : f' = max f (all.length + 1 - lim) := by omega
      subst ef
      refine ⟨rfl, mb, hB2, ao', cap', n', D', ?_⟩
      rw [List.length_append, List.length_singleton]
      exact ⟨hbox, hrow, hn', hown, hrem, hfle', hbel⟩
end Go.Proofs.Qxb6617092a

/-
  THE LAW OF ADDS AND TAKES: what its own memory holds.
-/
import Derived.Test.Qxb6617092aTake
import Derived.Test.Qxb6617092aRemd
namespace Go.Proofs.Qxb6617092a
open Go.RowKit Go.Maps

/-- Block g is a row of n cells of type t; cell j below k holds x j. -/
def CellsAt (w : World) (g : Nat) (t : TypeId) (n k : Nat) (x : Nat → Value) : Prop :=
  ∃ cur, w.heap[g]? = some (Obj.cells cur t (0, 0)) ∧ cur.size = n ∧ ∀ j, j < k → cur[j]? = some (x j)

section
variable {w w' : World} {g : Nat} {t : TypeId} {n k : Nat} {x : Nat → Value}

theorem CellsAt.cell (h : CellsAt w g t n k x) {j : Nat} (hj : j < k) : w.cell? ⟨g, j, none⟩ = some (x j) := by
  obtain ⟨cur, h1, _, h3⟩ := h
  simp [World.cell?, h1, h3 j hj]
theorem CellsAt.there (h : CellsAt w g t n k x) {j : Nat} (hj : j < n) : ∃ v, w.cell? ⟨g, j, none⟩ = some v := by
  obtain ⟨cur, h1, h2, _⟩ := h
  exact ⟨cur[j], by simp [World.cell?, h1, Array.getElem?_eq_getElem (show j < cur.size by omega)]⟩
theorem CellsAt.free (h : CellsAt w g t n k x) (j : Nat) : w.frozen? ⟨g, j, none⟩ = false := by
  obtain ⟨cur, h1, _, _⟩ := h
  simp [World.frozen?, h1]
theorem CellsAt.lt (h : CellsAt w g t n k x) : g < w.heap.size := by
  obtain ⟨cur, h1, _, _⟩ := h
  exact lt_of_block h1
theorem CellsAt.kept (h : CellsAt w g t n k x) (hh : w'.heap[g]? = w.heap[g]?) : CellsAt w' g t n k x := by
  obtain ⟨cur, h1, h2, h3⟩ := h
  exact ⟨cur, by rw [hh]; exact h1, h2, h3⟩
theorem CellsAt.congr {k' : Nat} {y : Nat → Value} (h : CellsAt w g t n k x) (hk : k' = k) (hxy : ∀ j, j < k → x j = y j) : CellsAt w g t n k' y := by
  subst hk
  obtain ⟨cur, h1, h2, h3⟩ := h
  exact ⟨cur, h1, h2, fun j hj => by rw [← hxy j hj]; exact h3 j hj⟩
theorem CellsAt.set (h : CellsAt w g t n k x) (hk : k < n) (v : Value) : CellsAt (w.setCell ⟨g, k, none⟩ v) g t n (k + 1) (fun j => if j < k then x j else v) := by
  obtain ⟨cur, h1, h2, h3⟩ := h
  refine ⟨cur.setIfInBounds k v, heap_setCell_same h1 v, by simpa using h2, fun j hj => ?_⟩
  show _ = some (if j < k then x j else v)
  by_cases hjk : j < k
  · rw [Array.getElem?_setIfInBounds_ne (by omega), if_pos hjk]
    exact h3 j hjk
  · obtain rfl : j = k := by omega
    rw [Array.getElem?_setIfInBounds_self_of_lt (by omega), if_neg hjk]
end

/-- 'append' onto a row of the law's own that has room. -/
theorem wpList_append_cellsAt (w : World) {ops : Array Oper} {rest : List Oper} {o : Oper} {a : Act} {Q : Exit → Act → World → Prop}
    (hg : o.guard = none) (s x : Operand) (hop : o.op = Op.call { callee := Callee.builtin Builtin.append, args := #[s, x], argTypes := #[27, 27] })
    {g n k : Nat} {y : Nat → Value} (hs : a.eval s = .slice (some ⟨g, 0, none⟩) k n) (hr : CellsAt w g 24 n k y) (hk : k < n) (ad : Addr) (h : Int) (hx : a.eval x = .slice (some ad) 1 1) (ha : w.cell? ad = some (.int .u64 h))
    (hK : wpList Try.prog ops Q rest (a.put o.dst (.slice (some ⟨g, 0, none⟩) (k + 1) n)) (w.setCell ⟨g, k, none⟩ (.int .u64 h))) :
    wpList Try.prog ops Q (o :: rest) a w := by
  refine wpList_plain hg fun K hK' => ?_
  obtain ⟨i0, hi, hz0, hz1, hz2⟩ := info_parts Try.info24
  have hnews : ∀ j u, [Value.int .u64 h][j]? = some u → w.cell? (ad.add j) = some u := by
    intro j u hj
    match j, hj with
    | 0, hj => simp at hj; subst hj; simpa [Addr.add] using ha
  have hone : ∀ u ∈ [Value.int .u64 h], u.oneCell' = true := by intro u hu; simp at hu; subst hu; rfl
  have hsz : i0.size = 1 := hz1
  obtain ⟨v0, hv0⟩ := hr.there hk
  have hcell : (w.cell? ⟨g, 0 + k * i0.size + 0, none⟩).isSome = true := by
    rw [hsz, show 0 + k * 1 + 0 = k by omega, hv0]; rfl
  have hfr : w.frozen? ⟨g, 0 + k * i0.size + 0, none⟩ = false := hr.free _
  have hrun := run_append_room_cells (P := Try.prog) w 27 o.type 24 i0 Try.underlying27 hi g 0 k n ad 1 1 [.int .u64 h] (by simp [hsz]) hnews hone hk
    (fun j hj => by obtain rfl : j = 0 := by simpa using hj
                    exact hcell) (fun j hj => by obtain rfl : j = 0 := by simpa using hj
                                                 exact hfr)
  rw [hsz, show 0 + k * 1 = k by omega] at hrun
  unfold Oper.wp
  simp [execOp, hop, resolve, invoke, builtin, hs, hx, hrun, Result.andThen]
  exact hK' _ _ hK

/-- THE LAW's MEMORY behind k calls. -/
structure Mem (w : World) (len : Nat) (A : Nat → Bool) (H : Nat → Int) (k na fz : Nat) (ao : Option Addr) (cp : Nat) (r : Option Nat) (wr : World) : Prop where
  num : na = cntTo A k
  hf : fz ≤ na
  gv : GV (w.heap.size + 2) ao cp r (adds A H k) fz (RT A H k fz) wr
  ab : CellsAt wr w.heap.size 3 len k (fun q => .int .i64 (cntTo A q))
  ah : CellsAt wr (w.heap.size + 1) 24 len na (fun q => .int .u64 (nth (adds A H k) q))
  bel : Below w.heap.size w wr
  sz : w.heap.size + 2 ≤ wr.heap.size

/-- At the start: the two rows have just been made. -/
theorem Mem.start (w : World) (len : Nat) (A : Nat → Bool) (H : Nat → Int) {c1 c2 : Array Value} (h1 : c1.size = len) (h2 : c2.size = len) :
    Mem w len A H 0 0 0 none 0 none ((w.alloc (.cells c1 3)).alloc (.cells c2 24)) := by
  refine ⟨rfl, Nat.le_refl _, .inl ⟨rfl, rfl, rfl, rfl, rfl, fun x => rfl⟩, ⟨c1, ?_, h1, fun j hj => by omega⟩, ⟨c2, ?_, h2, fun j hj => by omega⟩, ((Below.refl _ _).alloc (Nat.le_refl _) _).alloc (by simp) _, by simp⟩
  · rw [Below.heap_alloc _ _ _ (by simp)]
    exact heap_alloc_new w _
  · have := heap_alloc_new (w.alloc (.cells c1 3)) (.cells c2 24)
    rwa [show (w.alloc (.cells c1 3)).heap.size = w.heap.size + 1 by simp] at this

section
variable {w wr : World} {len : Nat} {A : Nat → Bool} {H : Nat → Int} {k na fz : Nat} {ao : Option Addr} {cp : Nat} {r : Option Nat}

/-- Behind 'addsBefore[k] = len(addHashes); op := ops[k]'. -/
theorem Mem.gv1 (m : Mem w len A H k na fz ao cp r wr) (v : Value) (o : Obj) : GV (w.heap.size + 2) ao cp r (adds A H k) fz (RT A H k fz) ((wr.setCell ⟨w.heap.size, k, none⟩ v).alloc o) :=
  m.gv.kept fun i h1 h2 => by
    rw [Below.heap_alloc _ _ _ (by simp [World.setCell]; omega)]
    exact Below.heap_setCell _ _ _ _ (by show i ≠ w.heap.size; omega)

theorem Mem.ab1 (m : Mem w len A H k na fz ao cp r wr) (hk : k < len) (o : Obj) : CellsAt ((wr.setCell ⟨w.heap.size, k, none⟩ (.int .i64 na)).alloc o) w.heap.size 3 len (k + 1) (fun q => .int .i64 (cntTo A q)) := by
  refine ((m.ab.set hk (.int .i64 na)).kept (w' := (wr.setCell ⟨w.heap.size, k, none⟩ (.int .i64 na)).alloc o) (Below.heap_alloc _ _ _ (by have := m.ab.lt; simpa [World.setCell] using this))).congr rfl fun j hj => ?_
  by_cases hjk : j < k
  · rw [if_pos hjk]
  · obtain rfl : j = k := by omega
    rw [if_neg hjk, m.num]

theorem Mem.ah1 (m : Mem w len A H k na fz ao cp r wr) (v : Value) (o : Obj) : CellsAt ((wr.setCell ⟨w.heap.size, k, none⟩ v).alloc o) (w.heap.size + 1) 24 len na (fun q => .int .u64 (nth (adds A H k) q)) :=
  m.ah.kept ((Below.heap_alloc _ _ _ (by have := m.ah.lt; simpa [World.setCell] using this)).trans (Below.heap_setCell _ _ _ _ (by show w.heap.size + 1 ≠ w.heap.size; omega)))

theorem Mem.bel1 (m : Mem w len A H k na fz ao cp r wr) (v : Value) (o : Obj) : Below w.heap.size w ((wr.setCell ⟨w.heap.size, k, none⟩ v).alloc o) :=
  (m.bel.setCell (p := ⟨w.heap.size, k, none⟩) (Nat.le_refl _) v).alloc (by have := m.sz; simp [World.setCell]; omega) o

/-- Behind an add. -/
theorem Mem.add {w1 : World} {ao' : Option Addr} {cp' fz' : Nat} {r' : Option Nat} {o o2 : Obj} (m : Mem w len A H k na fz ao cp r wr) (hk : k < len) (hA : A k = true) (hf1 : fz ≤ fz') (hf2 : fz' ≤ na + 1)
    (hgv : GV (w.heap.size + 2) ao' cp' r' (adds A H k ++ [H k]) fz' (dropTo (upd (RT A H k fz) (H k) (some na)) fz') w1)
    (hfr : Fr (w.heap.size + 2) ((wr.setCell ⟨w.heap.size, k, none⟩ (.int .i64 na)).alloc o) w1) :
    Mem w len A H (k + 1) (na + 1) fz' ao' cp' r' ((w1.alloc o2).setCell ⟨w.heap.size + 1, na, none⟩ (.int .u64 (H k))) := by
  have hs1 : w.heap.size + 2 ≤ w1.heap.size := by have := hfr.below.size; have := m.sz; simp [World.setCell] at *; omega
  have hnal : na < len := by have := cntTo_le A k; rw [← m.num] at this; omega
  have e1 : adds A H (k + 1) = adds A H k ++ [H k] := by rw [adds, if_pos hA]
  have hah : CellsAt (w1.alloc o2) (w.heap.size + 1) 24 len na (fun q => .int .u64 (nth (adds A H k) q)) :=
    (m.ah1 (.int .i64 na) o).kept ((Below.heap_alloc _ _ _ (by omega)).trans (hfr.below.block _ (by omega)))
  refine ⟨by rw [cntTo_succ_yes hA, m.num], hf2, ?_, ?_, ?_, ?_, by simp [World.setCell]; omega⟩
  · rw [e1, ← RT_add hA hf1, ← m.num]
    refine hgv.kept fun i h1 h2 => ?_
    rw [Below.heap_setCell _ _ _ _ (by show i ≠ w.heap.size + 1; omega)]
    exact Below.heap_alloc _ _ _ h2
  · refine (m.ab1 hk o).kept ?_
    rw [Below.heap_setCell _ _ _ _ (by show w.heap.size ≠ w.heap.size + 1; omega), Below.heap_alloc _ _ _ (by omega)]
    exact hfr.below.block _ (by omega)
  · refine (hah.set hnal (.int .u64 (H k))).congr rfl fun j hj => ?_
    have hl : (adds A H k).length = na := by rw [adds_length, m.num]
    rw [e1]
    by_cases hj' : j < na
    · rw [if_pos hj', nth_snoc_lt _ _ (by omega)]
    · obtain rfl : j = na := by omega
      rw [if_neg hj', ← hl, nth_snoc_at]
  · exact (((m.bel1 (.int .i64 na) o).trans (hfr.below.mono (by omega))).alloc (by omega) o2).setCell (p := ⟨w.heap.size + 1, na, none⟩) (by show w.heap.size ≤ w.heap.size + 1; omega) _

/-- Behind a take. -/
theorem Mem.take {w1 : World} {o : Obj} (m : Mem w len A H k na fz ao cp r wr) (hk : k < len) (hA : A k = false)
    (hgv : GV (w.heap.size + 2) ao cp r (adds A H k) fz (upd (RT A H k fz) (H k) none) w1)
    (hfr : Fr (w.heap.size + 2) ((wr.setCell ⟨w.heap.size, k, none⟩ (.int .i64 na)).alloc o) w1) :
    Mem w len A H (k + 1) na fz ao cp r w1 := by
  have hs1 : w.heap.size + 2 ≤ w1.heap.size := by have := hfr.below.size; have := m.sz; simp [World.setCell] at *; omega
  have e1 : adds A H (k + 1) = adds A H k := by rw [adds, hA]; rfl
  refine ⟨by rw [cntTo_succ_no hA, m.num], m.hf, ?_, (m.ab1 hk o).kept (hfr.below.block _ (by omega)), ?_, (m.bel1 (.int .i64 na) o).trans (hfr.below.mono (by omega)), hs1⟩
  · rw [e1, ← RT_take hA]
    exact hgv
  · rw [e1]
    exact (m.ah1 (.int .i64 na) o).kept (hfr.below.block _ (by omega))
end

/-- 'v, ok := serial[h]', WHATEVER THE MAP. -/
theorem GV.look {B : Nat} {ao : Option Addr} {cap : Nat} {r : Option Nat} {all : List Int} {f : Nat} {R : Int → Option Nat} {w : World} (hs : GV B ao cap r all f R w) {h : Int} (hwh : (Lit.int .u64 h).wf = true) :
    (Instr.lookup 28 (.map r) (.int .u64 h) true).run Try.prog w = .ok (.tuple #[.int .u64 (((R h).getD 0 : Nat) : Int), .bool (R h).isSome]) w := by
  rcases hs with ⟨_, _, rfl, _, _, hR⟩ | ⟨mb, n, D, rfl, _, _, _, hown, hrem, _⟩
  · rw [hR h]
    exact Maps.look_nil (w := w) true law24 Try.underlying28 (zero24 _) (keyOf_int_mk Try.underlying24 hwh)
  · cases hRh : R h with
    | none => exact look_none hown hrem hwh hRh
    | some m => exact look_rem hown hrem hwh hRh

theorem GV.len {B : Nat} {ao : Option Addr} {cap : Nat} {r : Option Nat} {all : List Int} {f : Nat} {R : Int → Option Nat} {w : World} (hs : GV B ao cap r all f R w) (ty : TypeId) :
    (Builtin.len_ #[28] ty #[.map r]).run Try.prog w = .ok (.int .i64 ((cntTo (fun j => decide (R (nth all j) = some j)) all.length : Nat) : Int)) w := by
  rcases hs with ⟨_, _, rfl, rfl, _, hR⟩ | ⟨mb, n, D, rfl, _, _, _, hown, hrem, _⟩
  · exact Maps.len_nil (w := w) Try.underlying28 ty
  · rw [← hrem.size]
    exact hown.len Try.underlying28 ty

/-- The kept order's cells. -/
theorem GV.cells {B : Nat} {ao : Option Addr} {cap : Nat} {r : Option Nat} {all : List Int} {f : Nat} {R : Int → Option Nat} {w : World} (hs : GV B ao cap r all f R w) (hp : f < all.length) :
    ∃ g off, ao = some ⟨g, off, none⟩ ∧ ∀ j, j < all.length - f → w.cell? ⟨g, off + j, none⟩ = some (.int .u64 (nth all (f + j))) := by
  rcases hs with ⟨_, _, _, rfl, _, _⟩ | ⟨mb, n, D, _, _, hrow, _⟩
  · simp at hp
  · obtain ⟨g, off, h1, _, h2⟩ := hrow.cell (by omega)
    exact ⟨g, off, h1, h2⟩

end Go.Proofs.Qxb6617092a

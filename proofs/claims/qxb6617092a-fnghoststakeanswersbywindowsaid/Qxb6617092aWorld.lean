/-
  THE GHOSTS IN MEMORY: the row of hashes (a slice that has been cut from the left: its head is anywhere in its block), the map, the struct's own block. Laws for the walks.
-/
import Derived.Test.Qxb6617092aRows
import Derived.Test.Qxb6617092aPlain
import Derived.WalkKit
import Derived.WalkSpells
import Derived.ArgAppend
import Derived.Maps.OwnSet
namespace Go.Proofs.Qxb6617092a
open Go.RowKit Go.Maps

theorem law24 : Keyed Try.prog 24 := int_keyed Try.underlying24
theorem zero24 (w : World) : (zeroValue 24).run Try.prog w = .ok (.int .u64 0) w := by kernel_rfl
theorem Try.info24 : (Try.prog.info? 24).map (fun i => (i.zero, i.size, i.bytes)) = some (some (.int .u64 0), 1, 8) := by kernel_rfl

theorem heap_setCell_same {w : World} {b o : Nat} {cur : Array Value} {t : TypeId} {fr : Nat × Nat} (h : w.heap[b]? = some (.cells cur t fr)) (u : Value) :
    (w.setCell ⟨b, o, none⟩ u).heap[b]? = some (.cells (cur.setIfInBounds o u) t fr) := by
  have hlt := lt_of_block h
  have h' : w.heap[b] = .cells cur t fr := by simpa [Array.getElem?_eq_getElem hlt] using h
  show (w.heap.modify b _)[b]? = _
  rw [Array.getElem?_eq_getElem (by simpa using hlt), Array.getElem_modify_self, h']
  rfl

/-- THE SLICE VALUE v HAS n ELEMENTS, element j is x j; its cells lie in a block from B on, of type uint64, none frozen. -/
def RowAt (w : World) (B : Nat) (v : Value) (n : Nat) (x : Nat → Int) : Prop :=
  ∃ ao cap, v = .slice ao n cap ∧ n ≤ cap ∧ cap ≤ maxLen ∧
    (cap = 0 ∨ ∃ g off cur, ao = some ⟨g, off, none⟩ ∧ B ≤ g ∧ w.heap[g]? = some (.cells cur 24 (0, 0)) ∧ off + cap ≤ cur.size ∧ ∀ j, j < n → cur[off + j]? = some (.int .u64 (x j)))

/-- Blocks below B, and blocks that are no row of uint64, are as they were. -/
structure Turn (B : Nat) (w w' : World) : Prop where
  below : Below B w w'
  block : ∀ k, k < w.heap.size → (∀ cur, w.heap[k]? ≠ some (.cells cur 24 (0, 0))) → w'.heap[k]? = w.heap[k]?

theorem RowAt.nil (w : World) (B : Nat) (x : Nat → Int) : RowAt w B (.slice none 0 0) 0 x := ⟨none, 0, rfl, Nat.le_refl _, Nat.zero_le _, .inl rfl⟩

theorem RowAt.kept {w w' : World} {B : Nat} {v : Value} {n : Nat} {x : Nat → Int} (h : RowAt w B v n x) (hb : ∀ g cur, B ≤ g → w.heap[g]? = some (.cells cur 24 (0, 0)) → w'.heap[g]? = w.heap[g]?) : RowAt w' B v n x := by
  obtain ⟨ao, cap, h1, h2, h3, h4⟩ := h
  refine ⟨ao, cap, h1, h2, h3, ?_⟩
  rcases h4 with h4 | ⟨g, off, cur, e1, e2, e3, e4⟩
  · exact .inl h4
  · exact .inr ⟨g, off, cur, e1, e2, by rw [hb g cur e2 e3]; exact e3, e4⟩

theorem RowAt.congr {w : World} {B : Nat} {v : Value} {n m : Nat} {x y : Nat → Int} (h : RowAt w B v n x) (hn : n = m) (hx : ∀ j, j < n → x j = y j) : RowAt w B v m y := by
  subst hn
  obtain ⟨ao, cap, h1, h2, h3, h4⟩ := h
  refine ⟨ao, cap, h1, h2, h3, ?_⟩
  rcases h4 with h4 | ⟨g, off, cur, e1, e2, e3, e4, e5⟩
  · exact .inl h4
  · exact .inr ⟨g, off, cur, e1, e2, e3, e4, fun j hj => by rw [← hx j hj]; exact e5 j hj⟩

theorem RowAt.alloc {w : World} {B : Nat} {v : Value} {n : Nat} {x : Nat → Int} (h : RowAt w B v n x) (o : Obj) : RowAt (w.alloc o) B v n x :=
  h.kept fun g _ _ hg => Below.heap_alloc w o g (lt_of_block hg)

theorem RowAt.drew {w : World} {B : Nat} {v : Value} {n : Nat} {x : Nat → Int} (h : RowAt w B v n x) : RowAt w.drew B v n x := h.kept fun _ _ _ _ => rfl

theorem RowAt.mapTurned {w w' : World} {B b : Nat} {v : Value} {n : Nat} {x : Nat → Int} (h : RowAt w B v n x) (ht : w.mapTurned w' b) : RowAt w' B v n x := by
  obtain ⟨es, clock, _, _, hb, _⟩ := id ht
  exact h.kept fun g cur _ hg => ht.grown.block g (lt_of_block hg) (fun e => by
    obtain rfl : g = b := by simpa using e
    rw [hg] at hb; cases hb)

/-- A store into a block of another type. -/
theorem RowAt.setCell {w : World} {B b o : Nat} {v : Value} {n : Nat} {x : Nat → Int} {cur : Array Value} {t : TypeId} {fr : Nat × Nat} (h : RowAt w B v n x) (hb : w.heap[b]? = some (.cells cur t fr)) (ht : t ≠ 24) (u : Value) : RowAt (w.setCell ⟨b, o, none⟩ u) B v n x :=
  h.kept fun g cur' _ hg => Below.heap_setCell _ _ _ _ (fun e => by
    have e' : g = b := e
    subst e'
    rw [hg] at hb
    simp at hb
    exact ht hb.2.1.symm)

/-- The cells, as the walk wants them. -/
theorem RowAt.cell {w : World} {B : Nat} {ao : Option Addr} {n m cap : Nat} {x : Nat → Int} (h : RowAt w B (.slice ao m cap) n x) (hn : 0 < n) : ∃ g off, ao = some ⟨g, off, none⟩ ∧ B ≤ g ∧ ∀ j, j < n → w.cell? ⟨g, off + j, none⟩ = some (.int .u64 (x j)) := by
  obtain ⟨ao', cap', h1, h2, h3, h4⟩ := h
  simp at h1
  obtain ⟨rfl, rfl, rfl⟩ := h1
  rcases h4 with h4 | ⟨g, off, cur, e1, e2, e3, e4, e5⟩
  · omega
  · exact ⟨g, off, e1, e2, fun j hj => by simp [World.cell?, e3, e5 j hj]⟩

theorem RowAt.shape {w : World} {B : Nat} {v : Value} {n : Nat} {x : Nat → Int} (h : RowAt w B v n x) : ∃ ao cap, v = .slice ao n cap ∧ n ≤ cap ∧ cap ≤ maxLen ∧ (ao = none → cap = 0) := by
  obtain ⟨ao, cap, h1, h2, h3, h4⟩ := h
  refine ⟨ao, cap, h1, h2, h3, fun e => ?_⟩
  rcases h4 with h4 | ⟨g, off, cur, e1, _⟩
  · exact h4
  · rw [e] at e1; cases e1

/-- 's = s[1:]'. -/
theorem RowAt.tail {w : World} {B : Nat} {ao : Option Addr} {n m cap : Nat} {x : Nat → Int} (h : RowAt w B (.slice ao m cap) n x) (hn : 0 < n) (ao' : Option Addr) (hao : 0 < cap - 1 → ∀ g off, ao = some ⟨g, off, none⟩ → ao' = some ⟨g, off + 1, none⟩) :
    RowAt w B (.slice ao' (n - 1) (cap - 1)) (n - 1) (fun j => x (j + 1)) := by
  obtain ⟨ao'', cap', h1, h2, h3, h4⟩ := h
  simp at h1
  obtain ⟨rfl, rfl, rfl⟩ := h1
  refine ⟨ao', cap - 1, rfl, by omega, by omega, ?_⟩
  rcases h4 with h4 | ⟨g, off, cur, e1, e2, e3, e4, e5⟩
  · exact .inl (by omega)
  · by_cases hc : 0 < cap - 1
    · exact .inr ⟨g, off + 1, cur, hao hc g off e1, e2, e3, by omega, fun j hj => by rw [show off + 1 + j = off + (j + 1) by omega]; exact e5 (j + 1) (by omega)⟩
    · exact .inl (by omega)

/-- One element more. -/
def snocF (n : Nat) (x : Nat → Int) (h : Int) : Nat → Int := fun j => if j < n then x j else h

theorem run_append_rowAt {w : World} {B : Nat} {v : Value} {n : Nat} {x : Nat → Int} (hr : RowAt w B v n x) (hB : B ≤ w.heap.size) (hbig : n ≤ 4096) (a : Addr) (h : Int) (ha : w.cell? a = some (.int .u64 h)) (ty : TypeId) :
    ∃ v' w', (Builtin.append_ #[27, 27] ty #[v, .slice (some a) 1 1]).run Try.prog w = .ok v' w' ∧ RowAt w' B v' (n + 1) (snocF n x h) ∧ Turn B w w' := by
  obtain ⟨i0, hi, hz0, hz1, hz2⟩ := info_parts Try.info24
  obtain ⟨ao, cap, rfl, h2, h3, h4⟩ := hr
  have hnews : ∀ j u, [Value.int .u64 h][j]? = some u → w.cell? (a.add j) = some u := by
    intro j u hj
    match j, hj with
    | 0, hj => simp at hj; subst hj; simpa [Addr.add] using ha
  have hone : ∀ u ∈ [Value.int .u64 h], u.oneCell' = true := by intro u hu; simp at hu; subst hu; rfl
  have grown : ∀ v' w', w'.ownsRow w.heap.size 24 1 v' (n + 1) ((List.range n).map (fun j => Value.int .u64 (x j)) ++ [.int .u64 h]) → w.grownBy w' none → RowAt w' B v' (n + 1) (snocF n x h) ∧ Turn B w w' := by
    intro v' w' ho hg
    refine ⟨?_, ⟨⟨hg.os, hg.tape, hg.output, hg.size, fun k hk => hg.block k (by omega) (by simp)⟩, fun k hk _ => hg.block k hk (by simp)⟩⟩
    obtain ⟨hl, hc⟩ := ho
    rcases hc with ⟨_, hc⟩ | ⟨g, cap', cur, rfl, hg1, hh, c1, c2, c3, c4⟩
    · omega
    · refine ⟨_, cap', rfl, c1, c2, .inr ⟨g, 0, cur, rfl, by omega, hh, by omega, fun j hj => ?_⟩⟩
      have e1 : (cur.toList.take ((n + 1) * 1))[j]? = cur.toList[j]? := by rw [List.getElem?_take]; simp; omega
      rw [c4] at e1
      rw [Nat.zero_add, ← Array.getElem?_toList, ← e1]
      unfold snocF
      by_cases hjn : j < n
      · rw [List.getElem?_append_left (by simpa using hjn)]
        simp [hjn]
      · obtain rfl : j = n := by omega
        rw [List.getElem?_append_right (by simp)]
        simp
  by_cases hroom : n + 1 ≤ cap
  · rcases h4 with h4 | ⟨g, off, cur, rfl, e2, e3, e4, e5⟩
    · omega
    · have hsz : i0.size = 1 := hz1
      have hcell : (w.cell? ⟨g, off + n * i0.size + 0, none⟩).isSome = true := by
        rw [hsz]; simp [World.cell?, e3]; omega
      have hfr : w.frozen? ⟨g, off + n * i0.size + 0, none⟩ = false := by simp [World.frozen?, e3]
      have hrun := run_append_room_cells (P := Try.prog) w 27 ty 24 i0 Try.underlying27 hi g off n cap a 1 1 [.int .u64 h] (by simp [hsz]) hnews hone hroom
        (fun j hj => by obtain rfl : j = 0 := by simpa using hj
                        exact hcell) (fun j hj => by obtain rfl : j = 0 := by simpa using hj
                                                     exact hfr)
      rw [hsz, Nat.mul_one] at hrun
      refine ⟨_, _, hrun, ?_, ?_⟩
      · refine ⟨_, cap, rfl, hroom, h3, .inr ⟨g, off, cur.setIfInBounds (off + n) (.int .u64 h), rfl, e2, heap_setCell_same e3 _, by simpa using e4, fun j hj => ?_⟩⟩
        unfold snocF
        by_cases hjn : j < n
        · rw [Array.getElem?_setIfInBounds_ne (by omega), if_pos hjn]
          exact e5 j hjn
        · obtain rfl : j = n := by omega
          rw [Array.getElem?_setIfInBounds_self_of_lt (by omega), if_neg hjn]
      · refine ⟨(Below.refl _ _).setCell (p := ⟨g, off + n, none⟩) e2 _, fun k hk hne => Below.heap_setCell _ _ _ _ (fun e => ?_)⟩
        have e' : k = g := e
        subst e'
        exact hne cur e3
  · cases ao with
    | some b =>
      have holds : ∀ j u, ((List.range n).map (fun j => Value.int .u64 (x j)))[j]? = some u → w.cell? (b.add j) = some u := by
        intro j u hj
        rcases h4 with h4 | ⟨g, off, cur, e1, e2, e3, e4, e5⟩
        · have : n = 0 := by omega
          subst this
          simp at hj
        · obtain rfl : b = ⟨g, off, none⟩ := by simpa using e1
          have hjn : j < n := by
            have := (List.getElem?_eq_some_iff.1 hj).1
            simpa using this
          rw [Addr.add_lit]
          have : u = .int .u64 (x j) := by simpa [hjn] using hj.symm
          subst this
          simp [World.cell?, e3, e5 j hjn]
      obtain ⟨v', w', hrun, r1, r2⟩ := run_append_arg_grows (P := Try.prog) w 27 ty 24 i0 (.int .u64 0) 1 8 Try.underlying27 hi hz0 hz1 hz2 rfl (by decide) b n cap _ (by simp) holds a 1 1 [.int .u64 h] (by simp) hnews (by omega) (by unfold maxLen; omega) (by omega)
      exact ⟨v', w', hrun, grown v' w' r1 r2⟩
    | none =>
      have hc0 : cap = 0 := by
        rcases h4 with h4 | ⟨g, off, cur, e1, _⟩
        · exact h4
        · cases e1
      subst hc0
      obtain rfl : n = 0 := by omega
      obtain ⟨v', w', hrun, r1, r2, _⟩ := run_append_own (P := Try.prog) w w.heap.size 27 ty 24 i0 (.int .u64 0) 1 8 Try.underlying27 hi hz0 hz1 hz2 rfl (by decide) (.slice none 0 0) 0 [] (World.ownsRow_nil w _ 24 1) a 1 1 [.int .u64 h] (by simp) hnews hone (by unfold maxLen; omega) (by omega) (Nat.le_refl _)
      exact ⟨v', w', hrun, grown v' w' (by simpa using r1) r2⟩

/-- BELOW B NOTHING HAS TURNED, and no variable of the law's own operations (type 35) has. -/
structure Fr (B : Nat) (w w' : World) : Prop where
  below : Below B w w'
  kept : ∀ (k : Nat) (cur : Array Value), w.heap[k]? = some (Obj.cells cur 35 (0, 0)) → w'.heap[k]? = some (Obj.cells cur 35 (0, 0))

theorem Fr.refl (B : Nat) (w : World) : Fr B w w := ⟨Below.refl B w, fun _ _ h => h⟩
theorem Fr.trans {B : Nat} {a b c : World} (h : Fr B a b) (k : Fr B b c) : Fr B a c := ⟨h.below.trans k.below, fun i cur e => k.kept i cur (h.kept i cur e)⟩
theorem Fr.drew {B : Nat} {a w : World} (h : Fr B a w) : Fr B a w.drew := ⟨h.below.drew, h.kept⟩
theorem Fr.heap {B : Nat} {a w w' : World} (h : Fr B a w) (hb : Below B w w') (hh : w'.heap = w.heap) : Fr B a w' := ⟨h.below.trans hb, fun k cur e => by rw [hh]; exact h.kept k cur e⟩
theorem Fr.alloc {B : Nat} {a w : World} (h : Fr B a w) (hB : B ≤ w.heap.size) (o : Obj) : Fr B a (w.alloc o) :=
  ⟨h.below.alloc hB o, fun k cur e => (Below.heap_alloc w o k (lt_of_block (h.kept k cur e))).trans (h.kept k cur e)⟩
theorem Fr.setCell {B : Nat} {a w : World} (h : Fr B a w) {b o : Nat} {cur : Array Value} {t : TypeId} {fr : Nat × Nat} (hB : B ≤ b) (hb : w.heap[b]? = some (.cells cur t fr)) (ht : t ≠ 35) (u : Value) : Fr B a (w.setCell ⟨b, o, none⟩ u) :=
  ⟨h.below.setCell (p := ⟨b, o, none⟩) hB u, fun k c e => by
    have e1 := h.kept k c e
    rw [Below.heap_setCell _ _ _ _ (fun e' => by
      have e2 : k = b := e'
      subst e2
      rw [e1] at hb
      simp at hb
      exact ht hb.2.1.symm)]
    exact e1⟩
theorem Fr.turned {B b : Nat} {a w w' : World} (h : Fr B a w) (ht : w.mapTurned w' b) (hB : B ≤ b) (hBw : B ≤ w.heap.size) : Fr B a w' := by
  refine ⟨h.below.grown ht.grown hBw (fun k e => ?_), fun k cur e => ?_⟩
  · obtain rfl : b = k := by simpa using e
    exact hB
  · obtain ⟨es, clock, _, _, hb, _⟩ := id ht
    have e1 := h.kept k cur e
    rw [ht.grown.block k (lt_of_block e1) (fun e' => by
      obtain rfl : k = b := by simpa using e'
      rw [e1] at hb; cases hb)]
    exact e1
theorem Fr.turn {B : Nat} {a w w' : World} (h : Fr B a w) (ht : Turn B w w') : Fr B a w' :=
  ⟨h.below.trans ht.below, fun k cur e => by
    have e1 := h.kept k cur e
    rw [ht.block k (lt_of_block e1) (fun c e' => by rw [e1] at e'; simp at e')]
    exact e1⟩

/-- AT THE OPERATION, for the walk. -/
theorem wpList_append_rowAt (w : World) {ops : Array Oper} {rest : List Oper} {o : Oper} {a : Act} {Q : Exit → Act → World → Prop}
    (hg : o.guard = none) (s x : Operand) (hop : o.op = Op.call { callee := Callee.builtin Builtin.append, args := #[s, x], argTypes := #[27, 27] })
    {B : Nat} {v : Value} {n : Nat} {y : Nat → Int} (hs : a.eval s = v) (hr : RowAt w B v n y) (hB : B ≤ w.heap.size) (hbig : n ≤ 4096) (ad : Addr) (h : Int) (hx : a.eval x = .slice (some ad) 1 1) (ha : w.cell? ad = some (.int .u64 h))
    (hK : ∀ ao' cap' w', RowAt w' B (.slice ao' (n + 1) cap') (n + 1) (snocF n y h) → Turn B w w' → wpList Try.prog ops Q rest (a.put o.dst (.slice ao' (n + 1) cap')) w') :
    wpList Try.prog ops Q (o :: rest) a w := by
  refine wpList_plain hg fun K hK' => ?_
  obtain ⟨v', w', hrun, r1, r2⟩ := run_append_rowAt hr hB hbig ad h ha o.type
  obtain ⟨ao', cap', e, _⟩ := r1.shape
  subst e
  unfold Oper.wp
  simp [execOp, hop, resolve, invoke, builtin, hs, hx, hrun, Result.andThen]
  exact hK' _ _ (hK ao' cap' w' r1 r2)

end Go.Proofs.Qxb6617092a

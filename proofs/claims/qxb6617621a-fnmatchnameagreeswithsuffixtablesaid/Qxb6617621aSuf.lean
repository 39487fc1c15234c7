/-
  THE WALK OF 'suffixMatch'.
-/
import Derived.Test.Qxb6617621aRun
import Derived.Deep.OwnRows
import Derived.Deep.DeepCutAuto
namespace Go.Proofs.Qxb6617621a
open Go.RowKit

theorem Try.info4 : (Try.prog.info? 4).map (fun i => (i.zero, i.size, i.bytes)) = some (some (.bool false), 1, 1) := by kernel_rfl

theorem heap_setCell_same {w : World} {b o : Nat} {cur : Array Value} {t : TypeId} {fr : Nat × Nat} (h : w.heap[b]? = some (.cells cur t fr)) (u : Value) :
    (w.setCell ⟨b, o, none⟩ u).heap[b]? = some (.cells (cur.setIfInBounds o u) t fr) := by
  have hlt := lt_of_block h
  have h' : w.heap[b] = .cells cur t fr := by simpa [Array.getElem?_eq_getElem hlt] using h
  show (w.heap.modify b _)[b]? = _
  rw [Array.getElem?_eq_getElem (by simpa using hlt), Array.getElem_modify_self, h']
  rfl

/-- Block g is a row of m + 1 bools; where p holds of j, cell j holds f j. -/
def BRow (w : World) (g m : Nat) (p : Nat → Prop) (f : Nat → Bool) : Prop :=
  ∃ cur, w.heap[g]? = some (Obj.cells cur 4 (0, 0)) ∧ cur.size = m + 1 ∧ ∀ j, j ≤ m → p j → cur[j]? = some (.bool (f j))

section
variable {w w' : World} {g m : Nat} {p : Nat → Prop} {f : Nat → Bool}
theorem BRow.there (h : BRow w g m p f) {j : Nat} (hj : j ≤ m) : ∃ v, w.cell? ⟨g, j, none⟩ = some v := by
  obtain ⟨cur, h1, h2, _⟩ := h
  exact ⟨cur[j], by simp [World.cell?, h1, Array.getElem?_eq_getElem (show j < cur.size by omega)]⟩
theorem BRow.free (h : BRow w g m p f) (j : Nat) : w.frozen? ⟨g, j, none⟩ = false := by
  obtain ⟨cur, h1, _⟩ := h
  simp [World.frozen?, h1]
theorem BRow.cell (h : BRow w g m p f) {j : Nat} (hj : j ≤ m) (hp : p j) : w.cell? ⟨g, j, none⟩ = some (.bool (f j)) := by
  obtain ⟨cur, h1, _, h3⟩ := h
  simp [World.cell?, h1, h3 j hj hp]
theorem BRow.kept (h : BRow w g m p f) (hh : w'.heap[g]? = w.heap[g]?) : BRow w' g m p f := by
  obtain ⟨cur, h1, h2, h3⟩ := h
  exact ⟨cur, by rw [hh]; exact h1, h2, h3⟩
theorem BRow.set (h : BRow w g m p f) {k : Nat} (hk : k ≤ m) {p' : Nat → Prop} {f' : Nat → Bool} (hs : ∀ j, j ≤ m → p' j → j ≠ k → p j ∧ f j = f' j) : BRow (w.setCell ⟨g, k, none⟩ (.bool (f' k))) g m p' f' := by
  obtain ⟨cur, h1, h2, h3⟩ := h
  refine ⟨cur.setIfInBounds k (.bool (f' k)), heap_setCell_same h1 _, by simpa using h2, fun j hj hpj => ?_⟩
  by_cases e : j = k
  · subst e
    rw [Array.getElem?_setIfInBounds_self_of_lt (by omega)]
  · rw [Array.getElem?_setIfInBounds_ne (by omega)]
    obtain ⟨h4, h5⟩ := hs j hj hpj e
    rw [← h5]
    exact h3 j hj h4
theorem BRow.weak (h : BRow w g m p f) {p' : Nat → Prop} {f' : Nat → Bool} (hs : ∀ j, j ≤ m → p' j → p j ∧ f j = f' j) : BRow w g m p' f' := by
  obtain ⟨cur, h1, h2, h3⟩ := h
  exact ⟨cur, h1, h2, fun j hj hpj => by rw [← (hs j hj hpj).2]; exact h3 j hj (hs j hj hpj).1⟩
theorem BRow.lt (h : BRow w g m p f) : g < w.heap.size := by
  obtain ⟨cur, h1, _⟩ := h
  exact lt_of_block h1
end

/-- THE TWO ROWS: next (at w's size), cur (behind it). -/
structure Two (w0 : World) (m : Nat) (p1 : Nat → Prop) (f1 : Nat → Bool) (p2 : Nat → Prop) (f2 : Nat → Bool) (w : World) : Prop where
  nx : BRow w w0.heap.size m p1 f1
  cu : BRow w (w0.heap.size + 1) m p2 f2
  bel : Below w0.heap.size w0 w
  sz : w0.heap.size + 2 ≤ w.heap.size

section
variable {w0 w : World} {m : Nat} {p1 p2 : Nat → Prop} {f1 f2 : Nat → Bool}
theorem Two.setCur (h : Two w0 m p1 f1 p2 f2 w) {k : Nat} (hk : k ≤ m) {p' : Nat → Prop} {f' : Nat → Bool} (hs : ∀ j, j ≤ m → p' j → j ≠ k → p2 j ∧ f2 j = f' j) : Two w0 m p1 f1 p' f' (w.setCell ⟨w0.heap.size + 1, k, none⟩ (.bool (f' k))) :=
  ⟨h.nx.kept (Below.heap_setCell _ _ _ _ (by show w0.heap.size ≠ w0.heap.size + 1; omega)), h.cu.set hk hs, h.bel.setCell (p := ⟨w0.heap.size + 1, k, none⟩) (by show w0.heap.size ≤ w0.heap.size + 1; omega) _, by have := h.sz; simpa [World.setCell] using this⟩
theorem Two.setNext (h : Two w0 m p1 f1 p2 f2 w) {k : Nat} (hk : k ≤ m) {p' : Nat → Prop} {f' : Nat → Bool} (hs : ∀ j, j ≤ m → p' j → j ≠ k → p1 j ∧ f1 j = f' j) : Two w0 m p' f' p2 f2 (w.setCell ⟨w0.heap.size, k, none⟩ (.bool (f' k))) :=
  ⟨h.nx.set hk hs, h.cu.kept (Below.heap_setCell _ _ _ _ (by show w0.heap.size + 1 ≠ w0.heap.size; omega)), h.bel.setCell (p := ⟨w0.heap.size, k, none⟩) (Nat.le_refl _) _, by have := h.sz; simpa [World.setCell] using this⟩
theorem Two.alloc (h : Two w0 m p1 f1 p2 f2 w) (o : Obj) : Two w0 m p1 f1 p2 f2 (w.alloc o) :=
  ⟨h.nx.kept (Below.heap_alloc _ _ _ h.nx.lt), h.cu.kept (Below.heap_alloc _ _ _ h.cu.lt), h.bel.alloc (by have := h.sz; omega) _, by have := h.sz; simp; omega⟩
theorem Two.drew (h : Two w0 m p1 f1 p2 f2 w) : Two w0 m p1 f1 p2 f2 w.drew := ⟨h.nx, h.cu, h.bel.drew, h.sz⟩
theorem Two.weak (h : Two w0 m p1 f1 p2 f2 w) {q1 q2 : Nat → Prop} {g1 g2 : Nat → Bool} (h1 : ∀ j, j ≤ m → q1 j → p1 j ∧ f1 j = g1 j) (h2 : ∀ j, j ≤ m → q2 j → p2 j ∧ f2 j = g2 j) : Two w0 m q1 g1 q2 g2 w := ⟨h.nx.weak h1, h.cu.weak h2, h.bel, h.sz⟩
end

theorem made_at (m j : Nat) (hj : j ≤ m) : (madeCells #[Value.bool false] (m + 1))[j]? = some (.bool false) := by
  rw [← Array.getElem?_toList, toList_madeCells_one, List.getElem?_replicate]
  simp
  omega

theorem Two.made (w : World) (m : Nat) : Two w m (fun _ => True) (fun j => decide (j = m)) (fun _ => False) (fun _ => false) ((w.alloc (.cells ((madeCells #[.bool false] (m + 1)).setIfInBounds m (.bool true)) 4)).alloc (.cells (madeCells #[.bool false] (m + 1)) 4)) := by
  refine ⟨⟨(madeCells #[.bool false] (m + 1)).setIfInBounds m (.bool true), ?_, by simp [madeCells], fun j hj _ => ?_⟩, ⟨madeCells #[.bool false] (m + 1), ?_, by simp [madeCells], fun j _ h => h.elim⟩, ((Below.refl _ _).alloc (Nat.le_refl _) _).alloc (by simp) _, by simp⟩
  · rw [Below.heap_alloc _ _ _ (by simp)]
    exact heap_alloc_new w _
  · by_cases e : j = m
    · subst e
      rw [Array.getElem?_setIfInBounds_self_of_lt (by simp [madeCells])]
      simp
    · rw [Array.getElem?_setIfInBounds_ne (by omega), made_at m j hj]
      simp [e]
  · have := heap_alloc_new (w.alloc (.cells ((madeCells #[.bool false] (m + 1)).setIfInBounds m (.bool true)) 4)) (.cells (madeCells #[.bool false] (m + 1)) 4)
    rwa [show (w.alloc (.cells ((madeCells #[.bool false] (m + 1)).setIfInBounds m (.bool true)) 4)).heap.size = w.heap.size + 1 by simp] at this

theorem made_cell (w : World) (m : Nat) : ∃ v, ((w.alloc (.cells (madeCells #[.bool false] (m + 1)) 4)).alloc (.cells (madeCells #[.bool false] (m + 1)) 4)).cell? ⟨w.heap.size, m, none⟩ = some v := by
  refine ⟨.bool false, al ?_⟩
  rw [World.cell?_alloc_new]
  exact made_at m m (Nat.le_refl _)

theorem seven {w : World} {g : Nat} {a0 a1 a2 a3 a4 a5 a6 : Value} {t : TypeId} (h : w.heap[g]? = some (Obj.cells #[a0, a1, a2, a3, a4, a5, a6] t (0, 0))) :
    w.cell? ⟨g, 0, none⟩ = some a0 ∧ w.cell? ⟨g, 1, none⟩ = some a1 ∧ w.cell? ⟨g, 2, none⟩ = some a2 ∧ w.cell? ⟨g, 3, none⟩ = some a3 ∧ w.cell? ⟨g, 4, none⟩ = some a4 ∧ w.cell? ⟨g, 5, none⟩ = some a5 ∧ w.cell? ⟨g, 6, none⟩ = some a6 := by
  simp [World.cell?, h]
theorem sl {w : World} {p a : Addr} {u v : Value} (hne : a.block ≠ p.block) (h : w.cell? a = some v) : (w.setCell p u).cell? a = some v :=
  (World.cell?_of_block (Below.heap_setCell _ _ _ _ hne)).trans h

set_option maxRecDepth 100000 in
set_option maxHeartbeats 2000000 in
theorem suffix_any (ao : Option Addr) (b off n cap : Nat) (s : ByteArray) (tk : Nat → Tk) (w : World) (hao : 0 < n → ao = some ⟨b, off, none⟩) (hn : n ≤ 4096) (hs : s.size ≤ 4096) (ht : Toks w b off n tk) (hok : ∀ i, i < n → (tk i).ok) :
    Calls Try.prog 7 #[.slice ao n cap, .string s] w fun e w' => e = .returned (.bool (M n s.size (Wt tk) (Ot tk s) 0 0)) ∧ Below w.heap.size w w' := by
  have hmk := fun W => run_make_row' (P := Try.prog) 35 4 (.bool false) 1 Try.underlying35 Try.info4 rfl .i64 .i64 (s.size + 1) (by omega) (by omega) W
  have ec : ((s.size + 1 : Nat) : Int) = (s.size : Int) + 1 := by omega
  rw [ec] at hmk
  have HM := Two.made w s.size
  obtain ⟨v0, hv0⟩ := made_cell w s.size
  clear ec
  obtain ⟨TT, hTT⟩ : ∃ TT, TT = T n s.size (Wt tk) (Ot tk s) := ⟨_, rfl⟩
  have HTT : Hid (TT = T n s.size (Wt tk) (Ot tk s)) := hTT
  have e0 : TT 0 = fun j => decide (j = s.size) := by rw [hTT]; rfl
  rw [← e0] at HM
  have eR : M n s.size (Wt tk) (Ot tk s) 0 0 = TT n 0 := by rw [hTT]; rfl
  rw [eR]
  clear e0 eR hTT
  go_enter Try.func7, Try.ntmps7
  go_wp2
  go_loopg [8] n (fun gk i wr => ∃ r, gk + r = n ∧ i = .int .i64 ((n - r : Nat) - 1 : Int) ∧ Two w s.size (fun _ => True) (TT r) (fun _ => False) (fun _ => false) wr)
  case atStart => exact ⟨0, rfl, by rw [Nat.sub_zero], HM⟩
  case round =>
    clear HM hv0 hmk
    obtain ⟨r, hgk, rfl, h2⟩ := hrel
    by_cases hr : r < n
    · obtain rfl := hao (by omega)
      clear hao
      obtain ⟨i, hi⟩ : ∃ i, i = n - (r + 1) := ⟨_, rfl⟩
      have hin : i < n := by omega
      rw [show ((n - r : Nat) : Int) - 1 = (i : Int) by omega]
      have HI : Hid (i = n - (r + 1)) := hi
      have hri : r + 1 + i = n := by omega
      clear hi
      have hsz := h2.sz
      have htw := ht.below ht.lt h2.bel
      have c0 := htw.c0 i hin
      have c1 := htw.c1 i hin
      have c2 := htw.c2 i hin
      have c3 := htw.c3 i hin
      have c4 := htw.c4 i hin
      have c5 := htw.c5 i hin
      have c6 := htw.c6 i hin
      have hok1 := hok i hin
      have hWi : Wt tk i = ((tk i).k == 2) := rfl
      have hOi : ∀ j, Ot tk s i j = (tk i).takes (bt s j) := fun j => rfl
      have HW : Hid (Wt tk i = ((tk i).k == 2)) := hWi
      have HO : Hid (∀ j, Ot tk s i j = (tk i).takes (bt s j)) := hOi
      clear hWi hOi htw
      obtain ⟨t, htk⟩ : ∃ t, t = tk i := ⟨_, rfl⟩
      rw [← htk] at c0 c1 c2 c3 c4 c5 c6 hok1 HW HO
      clear htk
      go_upto_if 37 with fail
      have h2a := h2.alloc (.cells #[.int .i64 t.k, .int .u8 t.b, .int .u64 t.s0, .int .u64 t.s1, .int .u64 t.s2, .int .u64 t.s3, .bool t.d] 33)
      have htb : (wr.alloc (.cells #[.int .i64 t.k, .int .u8 t.b, .int .u64 t.s0, .int .u64 t.s1, .int .u64 t.s2, .int .u64 t.s3, .bool t.d] 33)).heap[wr.heap.size]? = some (Obj.cells #[.int .i64 t.k, .int .u8 t.b, .int .u64 t.s0, .int .u64 t.s1, .int .u64 t.s2, .int .u64 t.s3, .bool t.d] 33 (0, 0)) := heap_alloc_new wr _
      clear c0 c1 c2 c3 c4 c5 c6 h2
      generalize (wr.alloc (.cells #[.int .i64 t.k, .int .u8 t.b, .int .u64 t.s0, .int .u64 t.s1, .int .u64 t.s2, .int .u64 t.s3, .bool t.d] 33)) = W1 at *
      obtain ⟨tb, hte⟩ : ∃ tb, tb = wr.heap.size := ⟨_, rfl⟩
      rw [← hte] at htb hsz ⊢
      clear hte
      go_cut [] (fun wc => Two w s.size (fun _ => True) (TT r) (fun _ => True) (TT (r + 1)) wc)
      case first =>
        obtain ⟨vm, hvm⟩ := h2a.cu.there (j := s.size) (Nat.le_refl _)
        have hfm := h2a.cu.free s.size
        cases hK : (t.k == 2) with
        | true =>
          have hWt : Wt tk (n - (r + 1)) = true := by rw [← HI.out, HW.out]; exact hK
          have em : TT r s.size = TT (r + 1) s.size := by rw [HTT.out]; exact (T_star_end hWt).symm
          have est : ∀ j, j < s.size → TT (r + 1) j = (TT r j || TT (r + 1) (j + 1)) := fun j hj => by rw [HTT.out]; exact T_star hWt hj
          have hnm := h2a.nx.cell (j := s.size) (Nat.le_refl _) trivial
          rw [em] at hnm
          have EST : Hid (∀ j, j < s.size → TT (r + 1) j = (TT r j || TT (r + 1) (j + 1))) := est
          have hT1 := h2a.setCur (k := s.size) (Nat.le_refl _) (p' := fun j => s.size ≤ j) (f' := TT (r + 1)) (fun j h1 h2' h3 => by omega)
          clear em est hWt h2a htb
          go_wp2
          go_loopw [10] (fun v w3 => ∃ q : Nat, q ≤ s.size ∧ v = .int .i64 ((q : Int) - 1) ∧ Two w s.size (fun _ => True) (TT r) (fun j => q ≤ j) (TT (r + 1)) w3) (fun v _ => (intOf v + 1).toNat)
          case atStart => exact ⟨s.size, Nat.le_refl _, rfl, hT1⟩
          case round =>
            clear hT1 hnm hvm hfm
            obtain ⟨w3, rfl⟩ : ∃ w3 : World, w3 = wr := ⟨_, rfl⟩
            obtain ⟨q, hq, rfl, hT⟩ := hrel
            cases q with
            | zero =>
              rw [show (((0 : Nat) : Int) - 1) = (-1 : Int) from rfl]
              go_wp2
              go_meet
              case rel => exact hT.weak (fun j _ _ => ⟨trivial, rfl⟩) (fun j _ _ => ⟨Nat.zero_le _, rfl⟩)
            | succ q =>
              rw [show (((q + 1 : Nat) : Int) - 1) = (q : Int) by omega]
              have hnq := hT.nx.cell (j := q) (by omega) trivial
              have hcq := hT.cu.cell (j := q + 1) (by omega) (Nat.le_refl _)
              obtain ⟨vq, hvq⟩ := hT.cu.there (j := q) (by omega)
              have hfq := hT.cu.free q
              have hset := hT.setCur (k := q) (by omega) (p' := fun j => q ≤ j) (f' := TT (r + 1)) (fun j _ h1 h3 => ⟨by omega, rfl⟩)
              have eq1 := EST.out q (by omega)
              cases hnx : TT r q with
              | true =>
                rw [hnx] at hnq eq1
                rw [show TT (r + 1) q = true by rw [eq1]; rfl] at hset
                clear eq1 hnx
                go_wp2
                go_roundw
                case rel => exact ⟨q, by omega, rfl, hset⟩
                case measure => simp [intOf]
              | false =>
                rw [hnx] at hnq eq1
                rw [show TT (r + 1) q = TT (r + 1) (q + 1) by rw [eq1]; rfl] at hset
                clear eq1 hnx
                go_wp2
                go_roundw
                case rel => exact ⟨q, by omega, rfl, hset⟩
                case measure => simp [intOf]
        | false =>
          have hWt : Wt tk (n - (r + 1)) = false := by rw [← HI.out, HW.out]; exact hK
          have em : TT (r + 1) s.size = false := by rw [HTT.out]; exact T_one_end hWt
          have eon : ∀ j, j < s.size → TT (r + 1) j = (TT r (j + 1) && t.takes (bt s j)) := fun j hj => by rw [HTT.out, T_one hWt hj, ← HI.out, HO.out]
          have EON : Hid (∀ j, j < s.size → TT (r + 1) j = (TT r (j + 1) && t.takes (bt s j))) := eon
          have hT1 := h2a.setCur (k := s.size) (Nat.le_refl _) (p' := fun j => j < 0 ∨ j = s.size) (f' := TT (r + 1)) (fun j h1 h2' h3 => by omega)
          rw [em] at hT1
          have htb1 : (W1.setCell ⟨w.heap.size + 1, s.size, none⟩ (.bool false)).heap[tb]? = some (Obj.cells #[.int .i64 t.k, .int .u8 t.b, .int .u64 t.s0, .int .u64 t.s1, .int .u64 t.s2, .int .u64 t.s3, .bool t.d] 33 (0, 0)) := by
            rw [Below.heap_setCell _ _ _ _ (by show tb ≠ w.heap.size + 1; omega)]; exact htb
          clear em eon hWt h2a htb
          go_wp2
          go_loopg [11] s.size (fun gq v w3 => ∃ q : Nat, gq + q = s.size ∧ v = .int .i64 (q : Int) ∧ Two w s.size (fun _ => True) (TT r) (fun j => j < q ∨ j = s.size) (TT (r + 1)) w3 ∧ Hid (w3.heap[tb]? = some (Obj.cells #[.int .i64 t.k, .int .u8 t.b, .int .u64 t.s0, .int .u64 t.s1, .int .u64 t.s2, .int .u64 t.s3, .bool t.d] 33 (0, 0))))
          case atStart => exact ⟨0, rfl, rfl, hT1, htb1⟩
          case round =>
            clear hT1 htb1 hvm hfm
            obtain ⟨w3, rfl⟩ : ∃ w3 : World, w3 = wr := ⟨_, rfl⟩
            obtain ⟨q, hgq, rfl, hT, hblk⟩ := hrel
            by_cases hq : q < s.size
            · have hnq := hT.nx.cell (j := q + 1) (by omega) trivial
              obtain ⟨vq, hvq⟩ := hT.cu.there (j := q) (by omega)
              have hfq := hT.cu.free q
              have eq1 := EON.out q hq
              cases hnx : TT r (q + 1) with
              | true =>
                rw [hnx] at hnq eq1
                have hb := bt_at s q hq
                obtain ⟨t0, t1, t2, t3, t4, t5, t6⟩ := seven hblk.out
                have hvq' : ∀ o, (w3.alloc o).cell? ⟨w.heap.size + 1, q, none⟩ = some vq := fun o => al hvq
                have hfq' : ∀ o, (w3.alloc o).frozen? ⟨w.heap.size + 1, q, none⟩ = false := fun o => (hT.alloc o).cu.free q
                have hset := fun o => (hT.alloc o).setCur (k := q) (by omega) (p' := fun j => j < q + 1 ∨ j = s.size) (f' := TT (r + 1)) (fun j _ h1 h3 => ⟨by omega, rfl⟩)
                rw [show TT (r + 1) q = t.takes (bt s q) by rw [eq1]; rfl] at hset
                have hblk' : ∀ o, ((w3.alloc o).setCell ⟨w.heap.size + 1, q, none⟩ (.bool (t.takes (bt s q)))).heap[tb]? = some (Obj.cells #[.int .i64 t.k, .int .u8 t.b, .int .u64 t.s0, .int .u64 t.s1, .int .u64 t.s2, .int .u64 t.s3, .bool t.d] 33 (0, 0)) := fun o =>
                  (Below.heap_setCell _ _ _ _ (by show tb ≠ w.heap.size + 1; omega)).trans ((Below.heap_alloc _ _ _ (lt_of_block hblk.out)).trans hblk.out)
                have HSET := (show Hid _ from hset)
                have HBLK := (show Hid _ from hblk')
                clear eq1 hnx hset hblk' EON
                have n1 : (q : Int) + 1 < (s.size : Int) + 1 := by omega
                have n2 : ((q : Int) + 1).toNat = q + 1 := by omega
                have n3 : IntKind.i64.wrap ((q : Int) + 1) = (q : Int) + 1 := by rw [IntKind.wrap_i64]; omega
                have n4 : (0 : Int) ≤ (q : Int) + 1 := by omega
                have n5 : (q : Int) < (s.size : Int) := by omega
                have n6 : (q : Int) < (s.size : Int) + 1 := by omega
                go_wp2
                go_region_held3 (fun w' => w'.cell? ⟨w.heap.size, q + 1, none⟩ = some (.bool true) ∧ w'.cell? ⟨tb, 0, none⟩ = some (.int .i64 t.k) ∧ w'.cell? ⟨tb, 1, none⟩ = some (.int .u8 t.b) ∧ w'.cell? ⟨tb, 2, none⟩ = some (.int .u64 t.s0) ∧ w'.cell? ⟨tb, 3, none⟩ = some (.int .u64 t.s1) ∧ w'.cell? ⟨tb, 4, none⟩ = some (.int .u64 t.s2) ∧ w'.cell? ⟨tb, 5, none⟩ = some (.int .u64 t.s3) ∧ w'.cell? ⟨tb, 6, none⟩ = some (.bool t.d))
                  (first | exact ⟨hnq, t0, t1, t2, t3, t4, t5, t6⟩ | exact ⟨al hnq, al t0, al t1, al t2, al t3, al t4, al t5, al t6⟩ | exact ⟨sl (by show w.heap.size ≠ w.heap.size + 1; omega) (al hnq), sl (by show tb ≠ w.heap.size + 1; omega) (al t0), sl (by show tb ≠ w.heap.size + 1; omega) (al t1), sl (by show tb ≠ w.heap.size + 1; omega) (al t2), sl (by show tb ≠ w.heap.size + 1; omega) (al t3), sl (by show tb ≠ w.heap.size + 1; omega) (al t4), sl (by show tb ≠ w.heap.size + 1; omega) (al t5), sl (by show tb ≠ w.heap.size + 1; omega) (al t6)⟩)
                  (first | (go_at_call 9; refine (takes_any t (bt s q) (bt_ok s q) hok1 _).mono ?_; rintro e w' ⟨rfl, o, rfl⟩))
                all_goals
                  go_wp2
                  go_roundg (gk - 1)
                  case measure => omega
                  case rel =>
                    go_light
                    exact ⟨q + 1, by omega, by go_num, (HSET.out _).drew, HBLK.out _⟩
              | false =>
                rw [hnx] at hnq eq1
                have hset := hT.setCur (k := q) (by omega) (p' := fun j => j < q + 1 ∨ j = s.size) (f' := TT (r + 1)) (fun j _ h1 h3 => ⟨by omega, rfl⟩)
                rw [show TT (r + 1) q = false by rw [eq1]; rfl] at hset
                clear eq1 hnx
                go_wp2
                go_region
                all_goals
                  go_wp2
                  go_roundg (gk - 1)
                  case measure => omega
                  case rel =>
                    go_light
                    refine ⟨q + 1, by omega, by go_num, hset.drew, ?_⟩
                    show _ = _
                    exact (Below.heap_setCell _ _ _ _ (by show tb ≠ w.heap.size + 1; omega)).trans hblk.out
            · obtain rfl : q = s.size := by omega
              go_wp2
              go_meet
              case rel => exact hT.weak (fun j _ _ => ⟨trivial, rfl⟩) (fun j _ _ => ⟨by omega, rfl⟩)
      case rest =>
        obtain ⟨w4, rfl⟩ : ∃ w4 : World, w4 = wc := ⟨_, rfl⟩
        have hT := hcut
        clear hcut htb h2a hok1 hsz
        go_wp2
        go_loopw [12] (fun v w5 => ∃ q : Nat, q ≤ s.size + 1 ∧ v = .int .i64 (q : Int) ∧ Two w s.size (fun j => j < q) (TT (r + 1)) (fun _ => True) (TT (r + 1)) w5) (fun v _ => s.size + 1 - (intOf v).toNat)
        case atStart => exact ⟨0, Nat.zero_le _, rfl, hT.weak (fun j _ h => absurd h (Nat.not_lt_zero _)) (fun j _ _ => ⟨trivial, rfl⟩)⟩
        case round =>
          clear hT
          obtain ⟨w5, rfl⟩ : ∃ w5 : World, w5 = wr := ⟨_, rfl⟩
          obtain ⟨q, hq, rfl, hT⟩ := hrel
          by_cases hqm : q ≤ s.size
          · have hcq := hT.cu.cell (j := q) hqm trivial
            obtain ⟨vq, hvq⟩ := hT.nx.there (j := q) hqm
            have hfq := hT.nx.free q
            have hset := hT.setNext (k := q) hqm (p' := fun j => j < q + 1) (f' := TT (r + 1)) (fun j _ h1 h3 => ⟨by omega, rfl⟩)
            go_wp2
            go_roundw
            case rel => exact ⟨q + 1, by omega, by go_num, hset⟩
            case measure => simp [intOf]; omega
          · go_wp2
            go_roundg (gk - 1)
            case measure => omega
            case rel =>
              go_light
              exact ⟨r + 1, by omega, by rw [← HI.out], hT.weak (fun j hj _ => ⟨by omega, rfl⟩) (fun j _ h => h.elim)⟩
    · obtain rfl : r = n := by omega
      have hc := h2.nx.cell (j := 0) (Nat.zero_le _) trivial
      rw [show (((r - r : Nat) : Int) - 1) = (-1 : Int) by omega]
      go_wp2
      go_ret
      exact ⟨rfl, h2.bel⟩
end Go.Proofs.Qxb6617621a

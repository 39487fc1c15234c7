/-
  THE WALK OF 'contentIsClassArcs'.
-/
import Derived.Test.Qxb6617602aRows
import Derived.Test.Qxb6617602aPlain
import Derived.WalkKit
import Derived.WalkSpells
import Derived.Laws.BitsAllLaws
import Derived.Deep.LoopGhost
import Derived.Deep.Light
namespace Go.Proofs.Qxb6617602a
open Go.RowKit

theorem heap_setCell_same {w : World} {b o : Nat} {cur : Array Value} {t : TypeId} {fr : Nat × Nat} (h : w.heap[b]? = some (.cells cur t fr)) (u : Value) :
    (w.setCell ⟨b, o, none⟩ u).heap[b]? = some (.cells (cur.setIfInBounds o u) t fr) := by
  have hlt := lt_of_block h
  have h' : w.heap[b] = .cells cur t fr := by simpa [Array.getElem?_eq_getElem hlt] using h
  show (w.heap.modify b _)[b]? = _
  rw [Array.getElem?_eq_getElem (by simpa using hlt), Array.getElem_modify_self, h']
  rfl

/-- The nine arcs' block: 9 cells; the first of them hold acc. -/
def Arcs (w : World) (g : Nat) (acc : List Int) : Prop :=
  ∃ cur t, w.heap[g]? = some (Obj.cells cur t (0, 0)) ∧ cur.size = 9 ∧ acc.length ≤ 9 ∧ ∀ j, j < acc.length → cur[j]? = some (.int .u64 (acc.getD j 0))

theorem Arcs.le {w : World} {g : Nat} {acc : List Int} (h : Arcs w g acc) : acc.length ≤ 9 := by
  obtain ⟨cur, t, _, _, h3, _⟩ := h
  exact h3
theorem Arcs.there {w : World} {g : Nat} {acc : List Int} (h : Arcs w g acc) {j : Nat} (hj : j < 9) : ∃ v, w.cell? ⟨g, j, none⟩ = some v := by
  obtain ⟨cur, t, h1, h2, _⟩ := h
  exact ⟨cur[j], by simp [World.cell?, h1, Array.getElem?_eq_getElem (show j < cur.size by omega)]⟩
theorem Arcs.free {w : World} {g : Nat} {acc : List Int} (h : Arcs w g acc) (j : Nat) : w.frozen? ⟨g, j, none⟩ = false := by
  obtain ⟨cur, t, h1, _⟩ := h
  simp [World.frozen?, h1]
theorem Arcs.cell {w : World} {g : Nat} {acc : List Int} (h : Arcs w g acc) {j : Nat} (hj : j < acc.length) : w.cell? ⟨g, j, none⟩ = some (.int .u64 (acc.getD j 0)) := by
  obtain ⟨cur, t, h1, h2, _, h3⟩ := h
  simp [World.cell?, h1, h3 j hj]
theorem Arcs.snoc {w : World} {g : Nat} {acc : List Int} (h : Arcs w g acc) (hl : acc.length < 9) (v : Int) : Arcs (w.setCell ⟨g, acc.length, none⟩ (.int .u64 v)) g (acc ++ [v]) := by
  obtain ⟨cur, t, h1, h2, _, h3⟩ := h
  refine ⟨cur.setIfInBounds acc.length (.int .u64 v), t, heap_setCell_same h1 _, by simpa using h2, by simp; omega, fun j hj => ?_⟩
  by_cases hjk : j < acc.length
  · rw [Array.getElem?_setIfInBounds_ne (by omega), h3 j hjk]
    simp [List.getD, List.getElem?_append_left hjk]
  · obtain rfl : j = acc.length := by simp at hj; omega
    rw [Array.getElem?_setIfInBounds_self_of_lt (by omega)]
    simp [List.getD]

theorem Arcs.two {w : World} {g : Nat} (h : Arcs w g []) (x y : Int) : Arcs ((w.setCell ⟨g, 0, none⟩ (.int .u64 x)).setCell ⟨g, 1, none⟩ (.int .u64 y)) g [x, y] :=
  Arcs.snoc (acc := [x]) (Arcs.snoc (acc := []) h (by simp) x) (by simp) y
theorem first_lo {v : Int} (h : v < 40) : first v = [0, v] := by unfold first; rw [if_pos h]
theorem first_mid {v : Int} (h : 40 ≤ v) (h' : v < 80) : first v = [1, v - 40] := by unfold first; rw [if_neg (by omega), if_pos h']
theorem first_hi {v : Int} (h : 80 ≤ v) : first v = [2, v - 80] := by unfold first; rw [if_neg (by omega), if_neg (by omega)]
theorem first_length (v : Int) : (first v).length = 2 := by unfold first; split <;> (try split) <;> rfl
theorem and127 (b : Int) (h : 0 ≤ b ∧ b < 256) : bits .and .u8 b 127 = b % 128 := by
  rw [u8_and b 127 h.1 h.2 (by omega) (by omega)]
  have : (127 : Int).toNat = 127 := rfl
  rw [this, nat_mask7]
  omega
theorem and128 (b : Int) (h : 0 ≤ b ∧ b < 256) : bits .and .u8 b 128 = b / 128 % 2 * 128 := by
  rw [u8_and b 128 h.1 h.2 (by omega) (by omega)]
  have : (128 : Int).toNat = 2 ^ 7 := rfl
  rw [this, nat_bit]
  omega
theorem or7 (v b : Int) (hv : 0 ≤ v ∧ v ≤ 1099511627776) : bits .or .u64 (v * 128) (b % 128) = v * 128 + b % 128 := by
  rw [u64_or _ _ (by omega) (by omega) (by omega) (by omega), nat_join 7 _ _ (by omega) (by omega)]
  omega

theorem list9 {α : Type} {l : List α} (h : l.length = 9) : ∃ a0 a1 a2 a3 a4 a5 a6 a7 a8, l = [a0, a1, a2, a3, a4, a5, a6, a7, a8] := by
  match l, h with
  | [a0, a1, a2, a3, a4, a5, a6, a7, a8], _ => exact ⟨a0, a1, a2, a3, a4, a5, a6, a7, a8, rfl⟩
theorem final9 (a0 a1 a2 a3 a4 a5 a6 a7 a8 : Int) : final [a0, a1, a2, a3, a4, a5, a6, a7, a8] = (a0 == 1 && (a1 == 3 && (a2 == 6 && (a3 == 1 && (a4 == 4 && (a5 == 1 && (a6 == 3704 && (a7 == 3 && (a8 == 1 || a8 == 2))))))))) := by
  rw [Bool.eq_iff_iff]
  simp [final, T1, T2]
  omega
theorem ret_bool {a b : Bool} (h : a = b) : Ending.returned (.bool a) = .returned (.bool b) := by rw [h]
theorem run_128 {f : Nat} {acc r : List Int} {b : Int} (h : b = 128) : run (f + 1) acc (b :: r) = false := by rw [run, if_pos h]
theorem run_none {f : Nat} {acc r : List Int} {b : Int} (h : b ≠ 128) (hs : sub 0 (b :: r) = none) : run (f + 1) acc (b :: r) = false := by rw [run, if_neg h, hs]
theorem run_first {f : Nat} {r r' : List Int} {b v : Int} (h : b ≠ 128) (hs : sub 0 (b :: r) = some (v, r')) : run (f + 1) [] (b :: r) = run f (first v) r' := by rw [run, if_neg h, hs]; rfl
theorem run_long {f : Nat} {acc r r' : List Int} {b v : Int} (h : b ≠ 128) (hs : sub 0 (b :: r) = some (v, r')) (ha : acc ≠ []) (hl : 9 ≤ acc.length) : run (f + 1) acc (b :: r) = false := by
  rw [run, if_neg h, hs]
  simp [ha]
  omega
theorem run_next {f : Nat} {acc r r' : List Int} {b v : Int} (h : b ≠ 128) (hs : sub 0 (b :: r) = some (v, r')) (ha : acc ≠ []) (hl : acc.length < 9) : run (f + 1) acc (b :: r) = run f (acc ++ [v]) r' := by
  rw [run, if_neg h, hs]
  simp [ha]
  omega
theorem run_nil (f : Nat) (acc : List Int) : run f acc [] = final acc := by cases f <;> rfl
theorem final_short {acc : List Int} (h : acc.length ≠ 9) : final acc = false := by
  unfold final
  have h1 : acc ≠ T1 := fun e => h (by rw [e]; rfl)
  have h2 : acc ≠ T2 := fun e => h (by rw [e]; rfl)
  simp [h1, h2]

set_option maxRecDepth 100000 in
set_option maxHeartbeats 1000000 in
theorem content_any (b off len cap : Nat) (z : Nat → Int) (w : World) (hlen : 0 < len) (hlen' : len ≤ 1048576) (hbw : b < w.heap.size) (cz : ∀ i, i < len → w.cell? ⟨b, off + i, none⟩ = some (.int .u8 (z i))) (wz : ∀ i, i < len → 0 ≤ z i ∧ z i < 256) :
    Calls Try.prog 9 #[.slice (some ⟨b, off, none⟩) len cap] w fun e w' => e = .returned (.bool (run len [] (seg z 0 len))) ∧ Below w.heap.size w w' := by
  obtain ⟨R, hR⟩ : ∃ R, R = run len [] (seg z 0 len) := ⟨_, rfl⟩
  rw [← hR]
  have HR : Hid (R = run len [] (seg z 0 len)) := hR
  clear hR
  have hA0 : Arcs (w.alloc (.cells #[.int .u64 0, .int .u64 0, .int .u64 0, .int .u64 0, .int .u64 0, .int .u64 0, .int .u64 0, .int .u64 0, .int .u64 0] 29)) w.heap.size [] :=
    ⟨_, _, heap_alloc_new w _, rfl, by simp, fun j hj => by simp at hj⟩
  go_enter Try.func9, Try.ntmps9
  go_wp2
  go_loopg [4, 5] len (fun gk n i wr => ∃ (k f : Nat) (acc : List Int), gk + k = len ∧ i = .int .i64 k ∧ n = .int .i64 (acc.length : Nat) ∧ Arcs wr w.heap.size acc ∧ len - k ≤ f ∧ Hid (R = run f acc (seg z k (len - k))) ∧ Below w.heap.size w wr)
  case atStart => exact ⟨0, len, [], rfl, rfl, rfl, hA0, by omega, HR, (Below.refl _ _).alloc (Nat.le_refl _) _⟩
  case round =>
    clear hA0 HR
    obtain ⟨k, f, acc, hgk, rfl, rfl, hA, hf, hrun, hbel⟩ := hrel
    by_cases hk : k < len
    · have ck : ∀ i, i < len → wr.cell? ⟨b, off + i, none⟩ = some (.int .u8 (z i)) := fun i hi => (hbel.cell (p := ⟨b, off + i, none⟩) hbw).trans (cz i hi)
      obtain ⟨f, rfl⟩ : ∃ f', f = f' + 1 := ⟨f - 1, by omega⟩
      have hseg := seg_step z hk
      have HSEG : Hid (seg z k (len - k) = z k :: seg z (k + 1) (len - (k + 1))) := hseg
      clear hseg
      have wk := wz k hk
      by_cases h128 : z k = 128
      · have hE : (z k == 128) = true := by simp [h128]
        have e0 : R = false := by rw [hrun.out, HSEG.out]; exact run_128 h128
        clear h128
        have E0 : Hid (R = false) := e0
        clear e0
        go_wp2
        go_ret
        exact ⟨by rw [E0.out]; rfl, hbel⟩
      · have hE : (z k == 128) = false := by simp [h128]
        have H128 : Hid (z k ≠ 128) := h128
        clear h128
        go_wp2
        go_loop [5, 6, 7] (fun i v d => ∃ (j : Nat) (u : Int) (dn : Bool), i = .int .i64 j ∧ k ≤ j ∧ j ≤ len ∧ v = .int .u64 u ∧ d = .bool dn ∧ 0 ≤ u ∧ u < 281474976710656 ∧ (dn = true → k < j) ∧ Hid (sub 0 (seg z k (len - k)) = if dn = true then some (u, seg z j (len - j)) else sub u (seg z j (len - j)))) (fun i _ _ => len - (intOf i).toNat)
        case atStart => exact ⟨k, 0, false, rfl, Nat.le_refl _, by omega, rfl, rfl, by omega, by omega, fun h => (by cases h), rfl⟩
        case round =>
          obtain ⟨j, u, dn, rfl, hj1, hj2, rfl, rfl, hu0, hu1, hdj, hsub⟩ := hrel
          cases dn with
          | true =>
            have hjk := hdj rfl
            clear hdj
            have hsb : sub 0 (z k :: seg z (k + 1) (len - (k + 1))) = some (u, seg z j (len - j)) := by
              rw [← HSEG.out, hsub.out]
              rfl
            have HSB : Hid (sub 0 (z k :: seg z (k + 1) (len - (k + 1))) = some (u, seg z j (len - j))) := hsb
            clear hsb hsub
            have hf0 := fun i => hA.free i
            by_cases hacc : acc = []
            · subst hacc
              have hrn : R = run f (first u) (seg z j (len - j)) := by rw [hrun.out, HSEG.out, run_first H128.out HSB.out]
              have HRN : Hid (R = run f (first u) (seg z j (len - j))) := hrn
              clear hrn
              obtain ⟨v0, hv0⟩ := hA.there (j := 0) (by omega)
              obtain ⟨v1, hv1⟩ := hA.there (j := 1) (by omega)
              rw [List.length_nil]
              by_cases h40 : u < 40
              · go_wp2
                go_roundg (len - j)
                case measure => omega
                case rel =>
                  go_light
                  refine ⟨j, f, first u, by omega, rfl, by rw [first_length]; rfl, ?_, by omega, HRN, (hbel.setCell (p := ⟨w.heap.size, 0, none⟩) (Nat.le_refl _) _).setCell (p := ⟨w.heap.size, 1, none⟩) (Nat.le_refl _) _⟩
                  rw [first_lo (by omega)]
                  exact hA.two 0 u
              · by_cases h80 : u < 80
                · go_wp2
                  go_roundg (len - j)
                  case measure => omega
                  case rel =>
                    go_light
                    refine ⟨j, f, first u, by omega, rfl, by rw [first_length]; rfl, ?_, by omega, HRN, (hbel.setCell (p := ⟨w.heap.size, 0, none⟩) (Nat.le_refl _) _).setCell (p := ⟨w.heap.size, 1, none⟩) (Nat.le_refl _) _⟩
                    rw [first_mid (by omega) (by omega)]
                    exact hA.two 1 (u - 40)
                · go_wp2
                  go_roundg (len - j)
                  case measure => omega
                  case rel =>
                    go_light
                    refine ⟨j, f, first u, by omega, rfl, by rw [first_length]; rfl, ?_, by omega, HRN, (hbel.setCell (p := ⟨w.heap.size, 0, none⟩) (Nat.le_refl _) _).setCell (p := ⟨w.heap.size, 1, none⟩) (Nat.le_refl _) _⟩
                    rw [first_hi (by omega)]
                    exact hA.two 2 (u - 80)
            · have hpos : 0 < acc.length := List.length_pos_iff.2 hacc
              have hle := hA.le
              have HAC : Hid (acc ≠ []) := hacc
              clear hacc
              by_cases h9 : 9 ≤ acc.length
              · have e0 : R = false := by rw [hrun.out, HSEG.out, run_long H128.out HSB.out HAC.out h9]
                have E0 : Hid (R = false) := e0
                clear e0
                go_wp2
                go_ret
                exact ⟨by rw [E0.out]; rfl, hbel⟩
              · have hrn : R = run f (acc ++ [u]) (seg z j (len - j)) := by rw [hrun.out, HSEG.out, run_next H128.out HSB.out HAC.out (by omega)]
                have HRN : Hid (R = run f (acc ++ [u]) (seg z j (len - j))) := hrn
                clear hrn
                obtain ⟨v0, hv0⟩ := hA.there (j := acc.length) (by omega)
                go_wp2
                go_roundg (len - j)
                case measure => omega
                case rel =>
                  go_light
                  exact ⟨j, f, acc ++ [u], by omega, rfl, by rw [List.length_append, List.length_singleton]; go_num, hA.snoc (by omega) u, by omega, HRN, hbel.setCell (p := ⟨w.heap.size, acc.length, none⟩) (Nat.le_refl _) _⟩
          | false =>
            by_cases hj : j < len
            · have wj := wz j hj
              have cj := ck j hj
              have hsj := seg_step z hj
              have HSJ : Hid (seg z j (len - j) = z j :: seg z (j + 1) (len - (j + 1))) := hsj
              clear hsj
              by_cases hbig : 1099511627776 < u
              · have e0 : R = false := by
                  rw [hrun.out, HSEG.out]
                  refine run_none H128.out ?_
                  rw [← HSEG.out, hsub.out, HSJ.out]
                  simp [sub, hbig]
                have E0 : Hid (R = false) := e0
                clear e0
                go_wp2
                go_ret
                exact ⟨by rw [E0.out]; rfl, hbel⟩
              · have h1 := and127 (z j) wj
                have h2 := and128 (z j) wj
                have h3 := or7 u (z j) ⟨hu0, by omega⟩
                by_cases hlow : z j < 128
                · have hb : (z j / 128 % 2 * 128 == 0) = true := by simp; omega
                  have hs2 : sub 0 (seg z k (len - k)) = some (u * 128 + z j % 128, seg z (j + 1) (len - (j + 1))) := by
                    rw [hsub.out, HSJ.out]
                    simp [sub, hbig, hlow]
                  have HS2 : Hid (sub 0 (seg z k (len - k)) = some (u * 128 + z j % 128, seg z (j + 1) (len - (j + 1)))) := hs2
                  clear hs2
                  go_wp2
                  go_round
                  case rel => exact ⟨j + 1, u * 128 + z j % 128, true, by go_num, by omega, by omega, rfl, rfl, by omega, by omega, fun _ => by omega, by rw [if_pos rfl]; exact HS2⟩
                  case measure => simp [intOf]; omega
                · have hb : (z j / 128 % 2 * 128 == 0) = false := by simp; omega
                  have hs2 : sub 0 (seg z k (len - k)) = sub (u * 128 + z j % 128) (seg z (j + 1) (len - (j + 1))) := by
                    rw [hsub.out, HSJ.out]
                    simp [sub, hbig, hlow]
                  have HS2 : Hid (sub 0 (seg z k (len - k)) = sub (u * 128 + z j % 128) (seg z (j + 1) (len - (j + 1)))) := hs2
                  clear hs2
                  go_wp2
                  go_round
                  case rel => exact ⟨j + 1, u * 128 + z j % 128, false, by go_num, by omega, by omega, rfl, rfl, by omega, by omega, fun h => (by cases h), by rw [if_neg (by decide)]; exact HS2⟩
                  case measure => simp [intOf]; omega
            · obtain rfl : j = len := by omega
              have e0 : R = false := by
                rw [hrun.out, HSEG.out]
                refine run_none H128.out ?_
                rw [← HSEG.out, hsub.out]
                simp [seg, sub]
              have E0 : Hid (R = false) := e0
              clear e0
              go_wp2
              go_ret
              exact ⟨by rw [E0.out]; rfl, hbel⟩
    · obtain rfl : k = len := by omega
      have hfin : R = final acc := by rw [hrun.out, Nat.sub_self]; exact run_nil f acc
      have HF : Hid (R = final acc) := hfin
      clear hfin
      by_cases h9 : acc.length = 9
      · have hE : ((acc.length : Int) != 9) = false := by simp; omega
        have c0 := hA.cell (j := 0) (by omega)
        have c1 := hA.cell (j := 1) (by omega)
        have c2 := hA.cell (j := 2) (by omega)
        have c3 := hA.cell (j := 3) (by omega)
        have c4 := hA.cell (j := 4) (by omega)
        have c5 := hA.cell (j := 5) (by omega)
        have c6 := hA.cell (j := 6) (by omega)
        have c7 := hA.cell (j := 7) (by omega)
        have c8 := hA.cell (j := 8) (by omega)
        obtain ⟨a0, a1, a2, a3, a4, a5, a6, a7, a8, rfl⟩ := list9 h9
        simp only [List.getD_cons_zero, List.getD_cons_succ] at c0 c1 c2 c3 c4 c5 c6 c7 c8
        rw [final9] at HF
        clear h9 hE hA hrun
        go_wp2
        all_goals
          go_ret
          refine ⟨ret_bool ?_, hbel⟩
          have hF := HF.out
          clear c0 c1 c2 c3 c4 c5 c6 c7 c8 cz wz HF
          go_light
          rw [hF]
          clear hF
          first
            | (have h7 : ¬ a7 = 3 := by simpa using (show (a7 != 3) = true by assumption)
               simp [*])
            | (have h7 : a7 = 3 := by simpa using (show (a7 != 3) = false by assumption)
               simp [*])
            | simp [*]
      · have hE : ((acc.length : Int) != 9) = true := by simp; omega
        have e0 : R = false := by rw [HF.out]; exact final_short h9
        have E0 : Hid (R = false) := e0
        clear e0 h9
        go_wp2
        go_ret
        exact ⟨by rw [E0.out]; rfl, hbel⟩
end Go.Proofs.Qxb6617602a

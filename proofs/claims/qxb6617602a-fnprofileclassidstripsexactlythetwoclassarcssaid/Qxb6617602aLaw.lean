/-
  THE LAW 'FnProfileClassIDStripsExactlyTheTwoClassArcs': the walk.
-/
import Derived.Test.Qxb6617602aCalls
import Derived.Laws.CopyOwn
import Derived.Deep.OwnRows
import Derived.Deep.DeepCutAuto
namespace Go.Proofs.Qxb6617602a
open Go.RowKit

theorem Try.info5 : (Try.prog.info? 5).map (fun i => (i.zero, i.size, i.bytes)) = some (some (.int .u8 0), 1, 1) := by kernel_rfl
theorem Try.size5 : (Try.prog.info? 5).map (·.size) = some 1 := by kernel_rfl

theorem strip_strip (l : List Int) : strip (strip l) = strip l := by
  unfold strip
  by_cases h1 : l = D1
  · subst h1; decide
  · by_cases h2 : l = D2
    · subst h2; decide
    · simp [h1, h2]
theorem strip_no {l : List Int} (h : derB l = false) : strip l = l := by
  simp [derB] at h
  simp [strip, h.1, h.2]
theorem strip_yes {l : List Int} (h : derB l = true) : strip l = l.drop 2 ∧ l.length = 11 := by
  simp [derB] at h
  rcases h with rfl | rfl <;> exact ⟨by decide, rfl⟩

theorem Bytes.drop2 {w : World} {b off : Nat} {l : List Int} (h : Bytes w (some ⟨b, off, none⟩) l) : Bytes w (some ⟨b, off + 2, none⟩) (l.drop 2) := by
  obtain ⟨h1, h2, h3⟩ := h
  refine ⟨by simp; omega, fun x hx => h2 x (List.mem_of_mem_drop hx), fun hp => ?_⟩
  simp at hp
  obtain ⟨b', off', e, hb, hc⟩ := h3 (by omega)
  obtain ⟨rfl, rfl⟩ : b = b' ∧ off = off' := by simpa using e
  refine ⟨b, off + 2, rfl, hb, fun i hi => ?_⟩
  simp at hi
  rw [show off + 2 + i = off + (2 + i) by omega, hc (2 + i) (by omega)]
  simp [List.getD]

/-- 'zzc := make([]byte, len(id)); copy(zzc, id)'. -/
theorem copy_run (w : World) (a : Addr) (n cap : Nat) (l : List Int) (hn : l.length = n) (h : Bytes w (some a) l) :
    ∃ w1, (∀ ty, (Builtin.copy_ #[22, 22] ty #[.slice (some ⟨w.heap.size, 0, none⟩) n n, .slice (some a) n cap]).run Try.prog (w.alloc (.cells (madeCells #[.int .u8 0] n) 5)) = .ok (.int .i64 (n : Int)) w1) ∧ Bytes w1 (some ⟨w.heap.size, 0, none⟩) l ∧ Below w.heap.size w w1 := by
  subst hn
  have hb0 : Below w.heap.size w (w.alloc (.cells (madeCells #[.int .u8 0] l.length) 5)) := (Below.refl _ _).alloc (Nat.le_refl _) _
  by_cases hp : 0 < l.length
  · obtain ⟨b, off, e, hbw, hc⟩ := h.2.2 hp
    obtain rfl : a = ⟨b, off, none⟩ := by simpa using e
    have hg : (w.alloc (.cells (madeCells #[.int .u8 0] l.length) 5)).heap[w.heap.size]? = some (.cells (madeCells #[.int .u8 0] l.length) 5 (0, 0)) := heap_alloc_new w _
    have hcs : (l.map (Value.int .u8)).length = Nat.min l.length l.length := by simp
    have hsrc : ∀ j v, (l.map (Value.int .u8))[j]? = some v → (w.alloc (.cells (madeCells #[.int .u8 0] l.length) 5)).cell? ((⟨b, off, none⟩ : Addr).add j) = some v := by
      intro j v hj
      have hjl : j < l.length := by
        have := (List.getElem?_eq_some_iff.1 hj).1
        simpa using this
      rw [Addr.add_lit, hb0.cell (p := ⟨b, off + j, none⟩) hbw, hc j hjl, ← hj]
      simp [List.getD, List.getElem?_eq_getElem hjl]
    have h1 : ∀ v ∈ l.map (Value.int .u8), v.oneCell' = true := by
      intro v hv
      obtain ⟨x, _, rfl⟩ := List.mem_map.1 hv
      rfl
    have hsz : (madeCells #[Value.int .u8 0] l.length).size = l.length := by simp [madeCells]
    have hrun := fun ty => run_copy_row (P := Try.prog) (w.alloc (.cells (madeCells #[.int .u8 0] l.length) 5)) 22 22 ty 5 w.heap.size 0 l.length l.length ⟨b, off, none⟩ l.length cap _ 5 (l.map (Value.int .u8)) Try.underlying22 Try.size5 hg hcs hsrc (by rw [hsz]; simp) h1
    refine ⟨(w.alloc (.cells (madeCells #[.int .u8 0] l.length) 5)).setRow w.heap.size ((madeCells #[Value.int .u8 0] l.length).toList.take 0 ++ (l.map (Value.int .u8) ++ (madeCells #[Value.int .u8 0] l.length).toList.drop (0 + (l.map (Value.int .u8)).length))).toArray, fun ty => (hrun ty).trans ?_, ?_, below_setRow hb0 (Nat.le_refl _) _⟩
    · rw [List.length_map]; rfl
    · have hg1 := setRow_heap (w.alloc (.cells (madeCells #[.int .u8 0] l.length) 5)) w.heap.size _ ((madeCells #[Value.int .u8 0] l.length).toList.take 0 ++ (l.map (Value.int .u8) ++ (madeCells #[Value.int .u8 0] l.length).toList.drop (0 + (l.map (Value.int .u8)).length))).toArray 5 (0, 0) hg
      refine ⟨h.1, h.2.1, fun _ => ⟨w.heap.size, 0, rfl, by simp, fun i hi => ?_⟩⟩
      simp only [World.cell?, hg1]
      simp [List.getElem?_append_left (show i < (l.map (Value.int .u8)).length by simpa using hi), List.getD, List.getElem?_eq_getElem hi]
  · obtain rfl : l = [] := List.eq_nil_of_length_eq_zero (by omega)
    exact ⟨_, fun ty => run_copy_none (P := Try.prog) _ 22 22 ty 5 _ _ _ _ _ _ Try.underlying22 Try.size5 (by simp), ⟨by simp, by simp, fun h => by simp at h⟩, hb0⟩

set_option maxRecDepth 100000 in
set_option maxHeartbeats 1000000 in
theorem law_any (ao : Option Addr) (cap : Nat) (l : List Int) (n : Nat) (hn : l.length = n) (w : World) (h : Bytes w ao l) (hnil : ao = none → cap = 0) (hc : n ≤ cap) (hcm : cap ≤ 9223372036854775807) :
    Calls Try.prog 3 #[.slice ao n cap] w fun e w' => e = .returned (.bool true) ∧ Below w.heap.size w w' := by
  have hle : n ≤ 1048576 := by rw [← hn]; exact h.1
  have hq : ∀ (w : World) (a : Option Addr) (l c : Nat), (binOp .neq 22 (.slice a l c) (.slice none 0 0)).run Try.prog w = .ok (.bool (!a.isNone)) w := fun w a l c => run_neq_slice_nil_any w _ _ a l c 0 0 Try.underlying22
  have hd : decide ((1048576 : Int) < (n : Int)) = false := decide_eq_false (by omega)
  go_enter Try.func3, Try.ntmps3
  go_upto_if 14 with (go_in)
  have hmk := fun W => run_make_row' (P := Try.prog) 22 5 (.int .u8 0) 1 Try.underlying22 Try.info5 rfl .i64 .i64 n (by omega) (by omega) W
  go_cut [0] (fun v wc => ∃ ao1 cp, v = .slice ao1 n cp ∧ n ≤ cp ∧ cp ≤ 9223372036854775807 ∧ Bytes wc ao1 l ∧ Below w.heap.size w wc)
  case first =>
    cases ao with
    | none =>
      have hc0 := hnil rfl
      subst hc0
      clear hnil
      go_wp2
      go_meet
      case rel => exact ⟨none, 0, rfl, hc, hcm, h, Below.refl _ _⟩
    | some a =>
      obtain ⟨w1, hcp, hby, hbl⟩ := copy_run w a n cap l hn h
      go_wp2
      go_meet
      case rel => exact ⟨some ⟨w.heap.size, 0, none⟩, n, rfl, Nat.le_refl _, by omega, hby, hbl⟩
  case rest =>
    obtain ⟨ao1, cp, rfl, hcp1, hcp2, hby, hbel⟩ := hcut
    clear h hnil hc hcm hmk hq
    go_wp2_with fail
    refine (zprof_any ao1 cp l n hn wc hby).mono ?_
    rintro e w1 ⟨ao2, cp2, rfl, hby2, hbl2⟩
    have hby1 := hby.below hbl2
    have hbel1 : Below w.heap.size w w1 := hbel.trans (hbl2.mono hbel.size)
    obtain ⟨sl, hsl⟩ : ∃ sl, sl = strip l := ⟨_, rfl⟩
    rw [← hsl] at hby2 ⊢
    have HSL : Hid (sl = strip l) := hsl
    clear hsl hby hbl2 hbel
    cases hder : derB l with
    | false =>
      have hs1 : sl = l := by rw [HSL.out]; exact strip_no hder
      have HS1 : Hid (sl = l) := hs1
      clear hs1
      go_wp2_with fail
      refine (der_any ao1 cp l n hn hcp1 hcp2 w1 hby1).mono ?_
      rw [hder]
      rintro e w2 ⟨rfl, hbl3⟩
      clear hder
      have hbel2 : Below w.heap.size w w2 := hbel1.trans (hbl3.mono hbel1.size)
      have hA := hby1.below hbl3
      have hB := hby2.below hbl3
      go_wp2_with fail
      refine (same_any ao2 ao1 cp2 cp sl.length n sl rfl (by rw [HS1.out]; exact hn.symm) w2 hB (by rw [HS1.out]; exact hA)).mono ?_
      rintro e w3 ⟨rfl, hbl4⟩
      have hbel3 : Below w.heap.size w w3 := hbel2.trans (hbl4.mono hbel2.size)
      have hC := hB.below hbl4
      go_wp2_with fail
      refine (zprof_any ao2 cp2 sl sl.length rfl w3 hC).mono ?_
      rw [show strip sl = sl by rw [HSL.out]; exact strip_strip l]
      rintro e w4 ⟨ao5, cp5, rfl, hby5, hbl5⟩
      have hbel4 : Below w.heap.size w w4 := hbel3.trans (hbl5.mono hbel3.size)
      have hD := hC.below hbl5
      go_wp2_with fail
      refine (same_any ao5 ao2 cp5 cp2 sl.length sl.length sl rfl rfl w4 hby5 hD).mono ?_
      rintro e w5 ⟨rfl, hbl6⟩
      go_wp2
      go_ret
      exact ⟨rfl, hbel4.trans (hbl6.mono hbel4.size)⟩
    | true =>
      obtain ⟨hs1, hl11⟩ := strip_yes hder
      have HS1 : Hid (sl = l.drop 2) := HSL.out.trans hs1
      have hn11 : n = 11 := by omega
      subst hn11
      clear hs1
      obtain ⟨b, off, rfl, hbw, _⟩ := hby1.2.2 (by omega)
      have hcap2 : ¬ cp = 2 := by omega
      go_wp2_with fail
      refine (der_any (some ⟨b, off, none⟩) cp l 11 hl11 hcp1 hcp2 w1 hby1).mono ?_
      rw [hder]
      rintro e w2 ⟨rfl, hbl3⟩
      clear hder
      have hbel2 : Below w.heap.size w w2 := hbel1.trans (hbl3.mono hbel1.size)
      have hA := (hby1.below hbl3).drop2
      have hB := hby2.below hbl3
      have hlen9 : sl.length = 9 := by rw [HS1.out]; simp [hl11]
      rw [hlen9]
      go_wp2_with fail
      refine (same_any ao2 (some ⟨b, off + 2, none⟩) cp2 (cp - 2) 9 9 sl hlen9.symm hlen9.symm w2 hB (by rw [HS1.out]; exact hA)).mono ?_
      rintro e w3 ⟨rfl, hbl4⟩
      have hbel3 : Below w.heap.size w w3 := hbel2.trans (hbl4.mono hbel2.size)
      have hC := hB.below hbl4
      go_wp2_with fail
      refine (zprof_any ao2 cp2 sl 9 hlen9 w3 hC).mono ?_
      rw [show strip sl = sl by rw [HSL.out]; exact strip_strip l, hlen9]
      rintro e w4 ⟨ao5, cp5, rfl, hby5, hbl5⟩
      have hbel4 : Below w.heap.size w w4 := hbel3.trans (hbl5.mono hbel3.size)
      have hD := hC.below hbl5
      go_wp2_with fail
      refine (same_any ao5 ao2 cp5 cp2 9 9 sl hlen9.symm hlen9.symm w4 hby5 hD).mono ?_
      rintro e w5 ⟨rfl, hbl6⟩
      go_wp2
      go_ret
      exact ⟨rfl, hbel4.trans (hbl6.mono hbel4.size)⟩
end Go.Proofs.Qxb6617602a

/-
  THE LAW 'FnMatchNameAgreesWithSuffixTable': the walk.
-/
import Derived.Test.Qxb6617621aSuf
import Derived.Outline
namespace Go.Proofs.Qxb6617621a
open Go.RowKit

theorem Try.info30 : (Try.prog.info? 30).map (fun i => (i.zero, i.size, i.bytes)) = some (some (.agg #[.int .i64 0, .int .u8 0, .int .u64 0, .int .u64 0, .int .u64 0, .int .u64 0, .bool false]), 7, 56) := by kernel_rfl

set_option maxRecDepth 100000 in
theorem token_any (t : Tk) (w : World) :
    Calls Try.prog 5 #[.int .i64 t.k, .int .u8 t.b, .agg #[.int .u64 t.s0, .int .u64 t.s1, .int .u64 t.s2, .int .u64 t.s3], .bool t.d] w fun e w' =>
      e = .returned (.agg #[.int .i64 t.k, .int .u8 t.b, .int .u64 t.s0, .int .u64 t.s1, .int .u64 t.s2, .int .u64 t.s3, .bool t.d]) ∧ ∃ o1 o2, w' = (w.alloc o1).alloc o2 := by
  go_enter Try.func5, Try.ntmps5
  go_wp2
  refine bodyPost_ret (v := .agg #[.int .i64 t.k, .int .u8 t.b, .int .u64 t.s0, .int .u64 t.s1, .int .u64 t.s2, .int .u64 t.s3, .bool t.d]) (by simp [results, Try.results5, go_sem]) rfl ⟨rfl, _, _, rfl⟩

theorem Try.size30 : (Try.prog.info? 30).map (·.size) = some 7 := by kernel_rfl

/-- A token's cells. -/
def tcells (t : Tk) : List Value := [.int .i64 t.k, .int .u8 t.b, .int .u64 t.s0, .int .u64 t.s1, .int .u64 t.s2, .int .u64 t.s3, .bool t.d]

/-- The zero token's cells. -/
def zt : Array Value := #[.int .i64 0, .int .u8 0, .int .u64 0, .int .u64 0, .int .u64 0, .int .u64 0, .bool false]

theorem run_maket (n : Nat) (hn : n ≤ 4096) (w : World) : (Instr.makeSlice 24 (.int .i64 (n : Int)) (.int .i64 (n : Int))).run Try.prog w = .ok (.slice (some ⟨w.heap.size, 0, none⟩) n n) (w.alloc (.cells (madeCells zt (n * 7)) 30)) := by
  obtain ⟨i0, hi, hz0, hz1, hz2⟩ := info_parts Try.info30
  have hs : i0.size = 7 := hz1
  have hb : i0.bytes = 56 := hz2
  have hr := run_make (P := Try.prog) w 24 30 i0 _ Try.underlying24 hi hz0 .i64 .i64 n n (by omega) (Int.le_refl _) (by rw [hb]; omega) (by omega)
  simp only [Int.toNat_natCast, hs] at hr
  exact hr

/-- Block g is a row of n tokens; the first k of them are tk. -/
def SRow (w : World) (g n k : Nat) (tk : Nat → Tk) : Prop :=
  ∃ cur, w.heap[g]? = some (Obj.cells cur 30 (0, 0)) ∧ cur.size = n * 7 ∧ ∀ i, i < k → cur[i * 7]? = some (.int .i64 (tk i).k) ∧ cur[i * 7 + 1]? = some (.int .u8 (tk i).b) ∧ cur[i * 7 + 2]? = some (.int .u64 (tk i).s0) ∧ cur[i * 7 + 3]? = some (.int .u64 (tk i).s1) ∧
    cur[i * 7 + 4]? = some (.int .u64 (tk i).s2) ∧ cur[i * 7 + 5]? = some (.int .u64 (tk i).s3) ∧ cur[i * 7 + 6]? = some (.bool (tk i).d)

theorem SRow.there {w : World} {g n k : Nat} {tk : Nat → Tk} (h : SRow w g n k tk) {j : Nat} (hj : j < n * 7) : ∃ v, w.cell? ⟨g, j, none⟩ = some v := by
  obtain ⟨cur, h1, h2, _⟩ := h
  exact ⟨cur[j], by simp [World.cell?, h1, Array.getElem?_eq_getElem (show j < cur.size by omega)]⟩
theorem SRow.free {w : World} {g n k : Nat} {tk : Nat → Tk} (h : SRow w g n k tk) (j : Nat) : w.frozen? ⟨g, j, none⟩ = false := by
  obtain ⟨cur, h1, _⟩ := h
  simp [World.frozen?, h1]
theorem SRow.kept {w w' : World} {g n k : Nat} {tk : Nat → Tk} (h : SRow w g n k tk) (hh : w'.heap[g]? = w.heap[g]?) : SRow w' g n k tk := by
  obtain ⟨cur, h1, h2, h3⟩ := h
  exact ⟨cur, by rw [hh]; exact h1, h2, h3⟩
theorem SRow.lt {w : World} {g n k : Nat} {tk : Nat → Tk} (h : SRow w g n k tk) : g < w.heap.size := by
  obtain ⟨cur, h1, _⟩ := h
  exact lt_of_block h1

theorem SRow.drew {w : World} {g n k : Nat} {tk : Nat → Tk} (h : SRow w g n k tk) : SRow w.drew g n k tk := h.kept rfl
theorem SRow.alloc {w : World} {g n k : Nat} {tk : Nat → Tk} (h : SRow w g n k tk) (o : Obj) : SRow (w.alloc o) g n k tk := h.kept (Below.heap_alloc _ _ _ h.lt)
theorem bel_al {w w' : World} (h : Below w.heap.size w w') (o : Obj) : Below w.heap.size w (w'.alloc o) := h.alloc h.size o

theorem SRow.set7 {w : World} {g n k : Nat} {tk : Nat → Tk} (h : SRow w g n k tk) (hk : k < n) {t : Tk} (ht : t = tk k) :
    SRow (((((((w.setCell ⟨g, k * 7, none⟩ (.int .i64 t.k)).setCell ⟨g, k * 7 + 1, none⟩ (.int .u8 t.b)).setCell ⟨g, k * 7 + 2, none⟩ (.int .u64 t.s0)).setCell ⟨g, k * 7 + 3, none⟩ (.int .u64 t.s1)).setCell ⟨g, k * 7 + 4, none⟩ (.int .u64 t.s2)).setCell ⟨g, k * 7 + 5, none⟩ (.int .u64 t.s3)).setCell ⟨g, k * 7 + 6, none⟩ (.bool t.d)) g n (k + 1) tk := by
  obtain ⟨cur, h1, h2, h3⟩ := h
  have hA := heap_setCell_same (o := k * 7 + 6) (heap_setCell_same (o := k * 7 + 5) (heap_setCell_same (o := k * 7 + 4) (heap_setCell_same (o := k * 7 + 3) (heap_setCell_same (o := k * 7 + 2) (heap_setCell_same (o := k * 7 + 1) (heap_setCell_same (o := k * 7) h1 (.int .i64 t.k)) (.int .u8 t.b)) (.int .u64 t.s0)) (.int .u64 t.s1)) (.int .u64 t.s2)) (.int .u64 t.s3)) (.bool t.d)
  refine ⟨_, hA, by simpa using h2, fun i hi => ?_⟩
  clear hA
  subst ht
  simp only [Array.getElem?_setIfInBounds, Array.size_setIfInBounds]
  by_cases e : i = k
  · subst e
    have hz : ∀ j, j < 7 → i * 7 + j < cur.size := fun j hj => by omega
    have hz0 := hz 0 (by omega)
    have hz1 := hz 1 (by omega)
    have hz2 := hz 2 (by omega)
    have hz3 := hz 3 (by omega)
    have hz4 := hz 4 (by omega)
    have hz5 := hz 5 (by omega)
    have hz6 := hz 6 (by omega)
    clear hz
    simp only [Nat.add_zero] at hz0
    simp [hz0, hz1, hz2, hz3, hz4, hz5, hz6]
  · have hz : ∀ j j', j < 7 → j' < 7 → k * 7 + j' ≠ i * 7 + j := fun j j' hj hj' => by omega
    have e0 : ∀ j j', j < 7 → j' < 7 → (k * 7 + j' = i * 7 + j) = False := fun j j' hj hj' => eq_false (hz j j' hj hj')
    have e1 : ∀ j, j < 7 → (k * 7 = i * 7 + j) = False := fun j hj => eq_false (hz j 0 hj (by omega))
    have e2 : ∀ j, j < 7 → (k * 7 + j = i * 7) = False := fun j hj => eq_false (hz 0 j (by omega) hj)
    have e3 : (k * 7 = i * 7) = False := eq_false (hz 0 0 (by omega) (by omega))
    have := h3 i (by omega)
    simpa (discharger := omega) only [e0, e1, e2, e3, if_false] using this

theorem bel_set7 {B : Nat} {a w : World} (h : Below B a w) {g : Nat} (hp : B ≤ g) {j0 j1 j2 j3 j4 j5 j6 : Nat} {u0 u1 u2 u3 u4 u5 u6 : Value} :
    Below B a (((((((w.setCell ⟨g, j0, none⟩ u0).setCell ⟨g, j1, none⟩ u1).setCell ⟨g, j2, none⟩ u2).setCell ⟨g, j3, none⟩ u3).setCell ⟨g, j4, none⟩ u4).setCell ⟨g, j5, none⟩ u5).setCell ⟨g, j6, none⟩ u6) :=
  Below.setCell (p := ⟨g, j6, none⟩) (Below.setCell (p := ⟨g, j5, none⟩) (Below.setCell (p := ⟨g, j4, none⟩) (Below.setCell (p := ⟨g, j3, none⟩) (Below.setCell (p := ⟨g, j2, none⟩) (Below.setCell (p := ⟨g, j1, none⟩) (Below.setCell (p := ⟨g, j0, none⟩) h hp _) hp _) hp _) hp _) hp _) hp _) hp _

theorem SRow.toks {w : World} {g n : Nat} {tk : Nat → Tk} (h : SRow w g n n tk) : Toks w g 0 n tk := by
  have hl := h.lt
  obtain ⟨cur, h1, h2, h3⟩ := h
  have e : ∀ o, w.cell? ⟨g, o, none⟩ = cur[o]? := fun o => by simp [World.cell?, h1]
  exact ⟨fun _ => hl, fun i hi => by rw [e, Nat.zero_add]; exact (h3 i hi).1, fun i hi => by rw [e, Nat.zero_add]; exact (h3 i hi).2.1, fun i hi => by rw [e, Nat.zero_add]; exact (h3 i hi).2.2.1, fun i hi => by rw [e, Nat.zero_add]; exact (h3 i hi).2.2.2.1,
    fun i hi => by rw [e, Nat.zero_add]; exact (h3 i hi).2.2.2.2.1, fun i hi => by rw [e, Nat.zero_add]; exact (h3 i hi).2.2.2.2.2.1, fun i hi => by rw [e, Nat.zero_add]; exact (h3 i hi).2.2.2.2.2.2⟩

theorem cs1 {W : World} {b g i j : Nat} {u v : Value} (hb : b ≠ g) (h : W.cell? ⟨b, i, none⟩ = some v) : (W.setCell ⟨g, j, none⟩ u).cell? ⟨b, i, none⟩ = some v := by
  rw [World.cell?_setCell_other _ _ _ _ (fun e => hb (by injection e with e1 _ _; exact e1.symm))]; exact h
theorem cs7 {W : World} {b g i j0 j1 j2 j3 j4 j5 j6 : Nat} {u0 u1 u2 u3 u4 u5 u6 v : Value} (hb : b ≠ g) (h : W.cell? ⟨b, i, none⟩ = some v) :
    (((((((W.setCell ⟨g, j0, none⟩ u0).setCell ⟨g, j1, none⟩ u1).setCell ⟨g, j2, none⟩ u2).setCell ⟨g, j3, none⟩ u3).setCell ⟨g, j4, none⟩ u4).setCell ⟨g, j5, none⟩ u5).setCell ⟨g, j6, none⟩ u6).cell? ⟨b, i, none⟩ = some v :=
  cs1 hb (cs1 hb (cs1 hb (cs1 hb (cs1 hb (cs1 hb (cs1 hb h))))))

set_option maxRecDepth 100000 in
set_option maxHeartbeats 1000000 in
theorem law_any (ao : Option Addr) (b off n cap : Nat) (s : ByteArray) (tk : Nat → Tk) (w : World) (hao : 0 < n → ao = some ⟨b, off, none⟩) (hn : n ≤ 4096) (hs : s.size ≤ 4096) (hbig : n * 56 + s.size ≤ 1048576) (ht : Toks w b off n tk) (hok : ∀ i, i < n → (tk i).ok) :
    Calls Try.prog 3 #[.slice ao n cap, .string s] w fun e w' => e = .returned (.bool true) ∧ Below w.heap.size w w' := by
  have hmk := fun W => run_maket n hn W
  have hd1 : decide ((4096 : Int) < (n : Int)) = false := decide_eq_false (by omega)
  have hd2 : decide ((4096 : Int) < (s.size : Int)) = false := decide_eq_false (by omega)
  have hd3 : decide ((1048576 : Int) < (n : Int)) = false := decide_eq_false (by omega)
  have hd4 : decide ((1048576 : Int) < (s.size : Int)) = false := decide_eq_false (by omega)
  have hd5 : decide ((1048576 : Int) < (n : Int) + (s.size : Int)) = false := decide_eq_false (by omega)
  have hd6 : decide ((1048576 : Int) < (n : Int) * 56 + (s.size : Int)) = false := decide_eq_false (by omega)
  have hS0 : SRow (w.alloc (.cells (madeCells zt (n * 7)) 30)) w.heap.size n 0 tk := ⟨_, heap_alloc_new w _, by simp [madeCells], fun i hi => by omega⟩
  go_enter Try.func3, Try.ntmps3
  go_wp2
  go_loopg [6] n (fun gk v wr => ∃ k, gk + k = n ∧ v = .int .i64 k ∧ SRow wr w.heap.size n k tk ∧ Below w.heap.size w wr)
  case atStart => exact ⟨0, rfl, rfl, hS0, (Below.refl _ _).alloc (Nat.le_refl _) _⟩
  case round =>
    clear hS0 hmk
    obtain ⟨k, hgk, rfl, hS, hbel⟩ := hrel
    by_cases hk : k < n
    · obtain rfl := hao (by omega)
      clear hao
      have htw := ht.below ht.lt hbel
      have c0 := htw.c0 k hk
      have c1 := htw.c1 k hk
      have c2 := htw.c2 k hk
      have c3 := htw.c3 k hk
      have c4 := htw.c4 k hk
      have c5 := htw.c5 k hk
      have c6 := htw.c6 k hk
      obtain ⟨t, htk⟩ : ∃ t, t = tk k := ⟨_, rfl⟩
      rw [← htk] at c0 c1 c2 c3 c4 c5 c6
      have HTK : Hid (t = tk k) := htk
      clear htk htw
      have n1 : (k : Int) < (n : Int) := by omega
      have hlt := hS.lt
      obtain ⟨v0, z0⟩ := hS.there (j := k * 7) (by omega)
      obtain ⟨v1, z1⟩ := hS.there (j := k * 7 + 1) (by omega)
      obtain ⟨v2, z2⟩ := hS.there (j := k * 7 + 2) (by omega)
      obtain ⟨v3, z3⟩ := hS.there (j := k * 7 + 3) (by omega)
      obtain ⟨v4, z4⟩ := hS.there (j := k * 7 + 4) (by omega)
      obtain ⟨v5, z5⟩ := hS.there (j := k * 7 + 5) (by omega)
      obtain ⟨v6, z6⟩ := hS.there (j := k * 7 + 6) (by omega)
      have zf : ∀ j, wr.frozen? ⟨w.heap.size, j, none⟩ = false := fun j => hS.free j
      have hbne : b ≠ w.heap.size := by have := ht.lt (by omega); omega
      have HS := (show Hid (SRow wr w.heap.size n k tk) from hS)
      clear hS
      go_wp2
      go_region_held3 (fun w' => w'.cell? ⟨b, off + k * 7, none⟩ = some (.int .i64 t.k) ∧ w'.cell? ⟨b, off + k * 7 + 1, none⟩ = some (.int .u8 t.b) ∧ w'.cell? ⟨b, off + k * 7 + 2, none⟩ = some (.int .u64 t.s0) ∧ w'.cell? ⟨b, off + k * 7 + 3, none⟩ = some (.int .u64 t.s1) ∧ w'.cell? ⟨b, off + k * 7 + 4, none⟩ = some (.int .u64 t.s2) ∧ w'.cell? ⟨b, off + k * 7 + 5, none⟩ = some (.int .u64 t.s3) ∧ w'.cell? ⟨b, off + k * 7 + 6, none⟩ = some (.bool t.d))
        (((try simp only [World.cell?_drew]); first | (with_reducible exact ⟨c0, c1, c2, c3, c4, c5, c6⟩) | (with_reducible exact ⟨al (al c0), al (al c1), al (al c2), al (al c3), al (al c4), al (al c5), al (al c6)⟩) | (with_reducible exact ⟨al (al (cs7 hbne c0)), al (al (cs7 hbne c1)), al (al (cs7 hbne c2)), al (al (cs7 hbne c3)), al (al (cs7 hbne c4)), al (al (cs7 hbne c5)), al (al (cs7 hbne c6))⟩) | (with_reducible exact ⟨cs7 hbne (al (al c0)), cs7 hbne (al (al c1)), cs7 hbne (al (al c2)), cs7 hbne (al (al c3)), cs7 hbne (al (al c4)), cs7 hbne (al (al c5)), cs7 hbne (al (al c6))⟩)))
        (first | (go_at_call 5; refine (token_any t _).mono ?_; rintro e w' ⟨rfl, o1, o2, rfl⟩))
      have n2 : IntKind.i64.wrap ((k : Int) + 1) = (k : Int) + 1 := by rw [IntKind.wrap_i64]; omega
      go_wp2
      go_roundg (gk - 1)
      case measure => omega
      go_light
      refine ⟨k + 1, by omega, by simp, ?_, ?_⟩
      · exact ((SRow.alloc (SRow.alloc (SRow.set7 (show SRow _ _ _ _ _ from HS.out) hk HTK.out) _) _).drew)
      · exact Below.drew (bel_al (bel_al (bel_set7 hbel (Nat.le_refl _)) _) _)
    · have hkn : k = n := by omega
      subst hkn
      have hT := hS.toks
      have n1 : ¬ ((k : Int) < (k : Int)) := by omega
      go_wp2_with (first | (go_at_call 6; refine (zname_any w.heap.size 0 k k s tk _ hn hs hT hok).mono ?_; rintro e w1 ⟨rfl, hb1⟩) | (go_at_call 7; refine (suffix_any ao b off k cap s tk _ hao hn hs (ht.below ht.lt (hbel.trans (hb1.mono hbel.size))) hok).mono ?_; rintro e w2 ⟨rfl, hb2⟩))
      exact bodyPost_ret (v := .bool true) (by simp [results, Try.results3, go_sem]) rfl ⟨rfl, hbel.trans ((hb1.mono hbel.size).trans (hb2.mono (Nat.le_trans hbel.size hb1.size)))⟩
end Go.Proofs.Qxb6617621a

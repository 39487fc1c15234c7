/-
  THE WALKS OF matchName's two closures, of matchRun, matchName, ZZMatchName.
-/
import Derived.Test.Qxb6617621aTok
import Derived.Deep.RegionHeld3
import Derived.Deep.LoopGhost
import Derived.Deep.Light
namespace Go.Proofs.Qxb6617621a
open Go.RowKit

/-- A ROW OF TOKENS IN MEMORY. -/
structure Toks (w : World) (g off n : Nat) (tk : Nat → Tk) : Prop where
  lt : 0 < n → g < w.heap.size
  c0 : ∀ i, i < n → w.cell? ⟨g, off + i * 7, none⟩ = some (.int .i64 (tk i).k)
  c1 : ∀ i, i < n → w.cell? ⟨g, off + i * 7 + 1, none⟩ = some (.int .u8 (tk i).b)
  c2 : ∀ i, i < n → w.cell? ⟨g, off + i * 7 + 2, none⟩ = some (.int .u64 (tk i).s0)
  c3 : ∀ i, i < n → w.cell? ⟨g, off + i * 7 + 3, none⟩ = some (.int .u64 (tk i).s1)
  c4 : ∀ i, i < n → w.cell? ⟨g, off + i * 7 + 4, none⟩ = some (.int .u64 (tk i).s2)
  c5 : ∀ i, i < n → w.cell? ⟨g, off + i * 7 + 5, none⟩ = some (.int .u64 (tk i).s3)
  c6 : ∀ i, i < n → w.cell? ⟨g, off + i * 7 + 6, none⟩ = some (.bool (tk i).d)

theorem Toks.cellsKept {w w' : World} {g off n : Nat} {tk : Nat → Tk} (h : Toks w g off n tk) (hs : w.heap.size ≤ w'.heap.size) (hb : 0 < n → w'.heap[g]? = w.heap[g]?) : Toks w' g off n tk := by
  have e : ∀ o, 0 < n → w'.cell? ⟨g, o, none⟩ = w.cell? ⟨g, o, none⟩ := fun o hn => World.cell?_of_block (a := ⟨g, o, none⟩) (hb hn)
  exact ⟨fun hn => Nat.lt_of_lt_of_le (h.lt hn) hs, fun i hi => (e _ (by omega)).trans (h.c0 i hi), fun i hi => (e _ (by omega)).trans (h.c1 i hi), fun i hi => (e _ (by omega)).trans (h.c2 i hi), fun i hi => (e _ (by omega)).trans (h.c3 i hi),
    fun i hi => (e _ (by omega)).trans (h.c4 i hi), fun i hi => (e _ (by omega)).trans (h.c5 i hi), fun i hi => (e _ (by omega)).trans (h.c6 i hi)⟩

theorem Toks.below {w w' : World} {B g off n : Nat} {tk : Nat → Tk} (h : Toks w g off n tk) (hg : 0 < n → g < B) (hb : Below B w w') : Toks w' g off n tk :=
  h.cellsKept hb.size fun hn => hb.block g (hg hn)

theorem al {w : World} {o : Obj} {a : Addr} {v : Value} (h : w.cell? a = some v) : (w.alloc o).cell? a = some v :=
  (World.cell?_of_block (Below.heap_alloc w o a.block (World.block_lt_of_cell? _ _ h))).trans h

/-- Byte j of the name. -/
def bt (s : ByteArray) (j : Nat) : Int := ((s.data.toList.getD j 0).toNat : Int)
theorem bt_ok (s : ByteArray) (j : Nat) : 0 ≤ bt s j ∧ bt s j < 256 := by
  unfold bt
  have := (s.data.toList.getD j 0).toNat_lt
  omega
theorem bt_at (s : ByteArray) (j : Nat) (h : j < s.size) : ((s[j]'h).toNat : Int) = bt s j := by
  unfold bt
  rw [List.getD_eq_getElem?_getD]
  have : s.data.toList[j]? = some (s[j]'h) := by
    rw [Array.getElem?_toList]
    exact Array.getElem?_eq_getElem h
  rw [this]
  rfl

set_option maxRecDepth 100000 in
theorem wild_at (sb g off n cp i : Nat) (tk : Nat → Tk) (w : World) (hi : i < n) (hsb : w.cell? ⟨sb, 0, none⟩ = some (.slice (some ⟨g, off, none⟩) n cp)) (ht : Toks w g off n tk) :
    Calls Try.prog 11 #[.int .i64 i, .pointer (some ⟨sb, 0, none⟩)] w fun e w' => e = .returned (.bool ((tk i).k == 2)) ∧ w' = w := by
  have c0 := ht.c0 i hi
  go_enter Try.func11, Try.ntmps11
  go_wp2
  go_ret
  exact ⟨rfl, rfl⟩

set_option maxRecDepth 100000 in
theorem one_at (sb nb g off n cp i j : Nat) (s : ByteArray) (tk : Nat → Tk) (w : World) (hi : i < n) (hj : j < s.size) (hsb : w.cell? ⟨sb, 0, none⟩ = some (.slice (some ⟨g, off, none⟩) n cp)) (hnb : w.cell? ⟨nb, 0, none⟩ = some (.string s)) (ht : Toks w g off n tk) (hok : ∀ i, i < n → (tk i).ok) :
    Calls Try.prog 12 #[.int .i64 i, .int .i64 j, .pointer (some ⟨sb, 0, none⟩), .pointer (some ⟨nb, 0, none⟩)] w fun e w' => e = .returned (.bool ((tk i).takes (bt s j))) ∧ Below w.heap.size w w' := by
  have c0 := ht.c0 i hi
  have c1 := ht.c1 i hi
  have c2 := ht.c2 i hi
  have c3 := ht.c3 i hi
  have c4 := ht.c4 i hi
  have c5 := ht.c5 i hi
  have c6 := ht.c6 i hi
  have hb := bt_at s j hj
  have hok1 := hok i hi
  generalize tk i = t at *
  go_enter Try.func12, Try.ntmps12
  go_wp2
  go_region_held3 (fun w' => w'.cell? ⟨sb, 0, none⟩ = some (.slice (some ⟨g, off, none⟩) n cp) ∧ w'.cell? ⟨nb, 0, none⟩ = some (.string s) ∧ w'.cell? ⟨g, off + i * 7, none⟩ = some (.int .i64 t.k) ∧ w'.cell? ⟨g, off + i * 7 + 1, none⟩ = some (.int .u8 t.b) ∧ w'.cell? ⟨g, off + i * 7 + 2, none⟩ = some (.int .u64 t.s0) ∧ w'.cell? ⟨g, off + i * 7 + 3, none⟩ = some (.int .u64 t.s1) ∧ w'.cell? ⟨g, off + i * 7 + 4, none⟩ = some (.int .u64 t.s2) ∧ w'.cell? ⟨g, off + i * 7 + 5, none⟩ = some (.int .u64 t.s3) ∧ w'.cell? ⟨g, off + i * 7 + 6, none⟩ = some (.bool t.d))
    (first | exact ⟨hsb, hnb, c0, c1, c2, c3, c4, c5, c6⟩ | exact ⟨al hsb, al hnb, al c0, al c1, al c2, al c3, al c4, al c5, al c6⟩)
    (first | (go_at_call 13; refine (matches_any t (bt s j) (bt_ok s j) hok1 _).mono ?_; rintro e w' ⟨rfl, o, rfl⟩))
  go_wp2
  go_ret
  exact ⟨rfl, ((Below.refl _ _).alloc (Nat.le_refl _) _).drew⟩

/-- Is token i a star? Does token i take byte j? -/
def Wt (tk : Nat → Tk) (i : Nat) : Bool := (tk i).k == 2
def Ot (tk : Nat → Tk) (s : ByteArray) (i j : Nat) : Bool := (tk i).takes (bt s j)

set_option maxRecDepth 100000 in
set_option maxHeartbeats 1000000 in
theorem run_any (sb nb g off n cp : Nat) (s : ByteArray) (tk : Nat → Tk) (w : World) (hn : n ≤ 4096) (hs : s.size ≤ 4096) (hsb : w.cell? ⟨sb, 0, none⟩ = some (.slice (some ⟨g, off, none⟩) n cp)) (hnb : w.cell? ⟨nb, 0, none⟩ = some (.string s)) (ht : Toks w g off n tk) (hok : ∀ i, i < n → (tk i).ok) :
    Calls Try.prog 10 #[.int .i64 n, .int .i64 s.size, .func (.func 11) #[] #[.pointer (some ⟨sb, 0, none⟩)], .func (.func 12) #[] #[.pointer (some ⟨sb, 0, none⟩), .pointer (some ⟨nb, 0, none⟩)]] w fun e w' =>
      e = .returned (.bool (M n s.size (Wt tk) (Ot tk s) 0 0)) ∧ Below w.heap.size w w' := by
  obtain ⟨R, hR⟩ : ∃ R, R = M n s.size (Wt tk) (Ot tk s) 0 0 := ⟨_, rfl⟩
  rw [← hR]
  have HR : Hid (R = (M n s.size (Wt tk) (Ot tk s) 0 0 || BV n s.size (Wt tk) (Ot tk s) 0 0)) := by
    show _ = _
    rw [hR]; simp [BV]
  clear hR
  have hsbl : sb < w.heap.size := World.block_lt_of_cell? _ _ hsb
  have hnbl : nb < w.heap.size := World.block_lt_of_cell? _ _ hnb
  go_enter Try.func10, Try.ntmps10
  go_wp2
  go_loopg [9, 10, 11, 12] (meas n s.size 0 0 0) (fun gk i j bi bj wr => ∃ i' j' p b : Nat, gk = meas n s.size p b i' ∧ i = .int .i64 i' ∧ j = .int .i64 j' ∧ ((p = 0 ∧ bi = .int .i64 (-1)) ∨ (0 < p ∧ bi = .int .i64 p)) ∧ bj = .int .i64 b ∧ Inv n s.size (Wt tk) (Ot tk s) i' j' p b ∧ Hid (R = (M n s.size (Wt tk) (Ot tk s) i' j' || BV n s.size (Wt tk) (Ot tk s) p b)) ∧ Below w.heap.size w wr)
  case atStart => exact ⟨0, 0, 0, 0, rfl, rfl, rfl, .inl ⟨rfl, rfl⟩, rfl, Inv.start, HR, Below.refl _ _⟩
  case round =>
    clear HR
    obtain ⟨i, j, p, b, hgk, rfl, rfl, hbi, rfl, hinv, hrun, hbel⟩ := hrel
    have hin := hinv.hi
    have hjm := hinv.hj
    have hpi := hinv.hp
    have hbm := hinv.hb
    have hsb1 : wr.cell? ⟨sb, 0, none⟩ = some (.slice (some ⟨g, off, none⟩) n cp) := (hbel.cell (p := ⟨sb, 0, none⟩) hsbl).trans hsb
    have hnb1 : wr.cell? ⟨nb, 0, none⟩ = some (.string s) := (hbel.cell (p := ⟨nb, 0, none⟩) hnbl).trans hnb
    have ht1 := ht.below ht.lt hbel
    have HT : Hid (Toks wr g off n tk) := ht1
    clear ht1
    have HGK : Hid (gk = meas n s.size p b i) := hgk
    clear hgk
    by_cases hj : j < s.size
    · by_cases hi : i < n
      · cases hW : (tk i).k == 2 with
        | true =>
          have hst := inv_star hinv hrun.out hi hj hW
          obtain ⟨hinv', hrun'⟩ := hst
          have HRUN : Hid (R = (M n s.size (Wt tk) (Ot tk s) (i + 1) j || BV n s.size (Wt tk) (Ot tk s) (i + 1) j)) := hrun'
          have hms := meas_star hinv hi
          have HMS : Hid (meas n s.size (i + 1) j (i + 1) < meas n s.size p b i) := hms
          clear hrun' hms hrun
          rcases hbi with ⟨_, rfl⟩ | ⟨_, rfl⟩
          all_goals
            go_wp2_with (first | (go_at_call 11; refine (wild_at sb g off n cp i tk _ hi hsb1 HT.out).mono ?_; rintro e w' ⟨rfl, rfl⟩))
            go_roundg (meas n s.size (i + 1) j (i + 1))
            case measure => rw [HGK.out]; exact HMS
            case rel =>
              go_light
              exact ⟨i + 1, j, i + 1, j, rfl, by go_num, rfl, .inr ⟨by omega, by go_num⟩, rfl, hinv', HRUN, hbel⟩
        | false =>
          cases hO : (tk i).takes (bt s j) with
          | true =>
            obtain ⟨hinv', hrun'⟩ := inv_one hinv hrun.out hi hj hW hO
            have HRUN : Hid (R = (M n s.size (Wt tk) (Ot tk s) (i + 1) (j + 1) || BV n s.size (Wt tk) (Ot tk s) p b)) := hrun'
            clear hrun' hrun
            go_wp2_with (first | (go_at_call 11; refine (wild_at sb g off n cp i tk _ hi hsb1 HT.out).mono ?_; rintro e w' ⟨rfl, rfl⟩) | (go_at_call 12; refine (one_at sb nb g off n cp i j s tk _ hi hj hsb1 hnb1 HT.out hok).mono ?_; rintro e w1 ⟨rfl, hb1⟩))
            go_roundg (meas n s.size p b (i + 1))
            case measure => rw [HGK.out]; exact meas_one hi
            case rel =>
              go_light
              exact ⟨i + 1, j + 1, p, b, rfl, by go_num, by go_num, hbi, rfl, hinv', HRUN, hbel.trans (hb1.mono hbel.size)⟩
          | false =>
            have hst := stuck (O := Ot tk s) (W := Wt tk) (.inr ⟨hi, hW, hO⟩) hin hj
            have HST : Hid (M n s.size (Wt tk) (Ot tk s) i j = false) := hst
            clear hst
            rcases hbi with ⟨hp0, rfl⟩ | ⟨hp0, rfl⟩
            · have e0 := inv_none hrun.out HST.out hp0
              have E0 : Hid (R = false) := e0
              clear e0
              go_wp2_with (first | (go_at_call 11; refine (wild_at sb g off n cp i tk _ hi hsb1 HT.out).mono ?_; rintro e w' ⟨rfl, rfl⟩) | (go_at_call 12; refine (one_at sb nb g off n cp i j s tk _ hi hj hsb1 hnb1 HT.out hok).mono ?_; rintro e w1 ⟨rfl, hb1⟩))
              go_ret
              exact ⟨ret_bool E0.out.symm, hbel.trans (hb1.mono hbel.size)⟩
            · obtain ⟨hinv', hrun'⟩ := inv_back hinv hrun.out hj HST.out hp0
              have HRUN : Hid (R = (M n s.size (Wt tk) (Ot tk s) p (b + 1) || BV n s.size (Wt tk) (Ot tk s) p (b + 1))) := hrun'
              clear hrun' hrun
              go_wp2_with (first | (go_at_call 11; refine (wild_at sb g off n cp i tk _ hi hsb1 HT.out).mono ?_; rintro e w' ⟨rfl, rfl⟩) | (go_at_call 12; refine (one_at sb nb g off n cp i j s tk _ hi hj hsb1 hnb1 HT.out hok).mono ?_; rintro e w1 ⟨rfl, hb1⟩))
              go_roundg (meas n s.size p (b + 1) p)
              case measure => rw [HGK.out]; exact meas_back hinv hj hp0
              case rel =>
                go_light
                exact ⟨p, b + 1, p, b + 1, rfl, rfl, by go_num, .inr ⟨hp0, rfl⟩, by go_num, hinv', HRUN, hbel.trans (hb1.mono hbel.size)⟩
      · have hst := stuck (O := Ot tk s) (W := Wt tk) (.inl (by omega)) hin hj
        have HST : Hid (M n s.size (Wt tk) (Ot tk s) i j = false) := hst
        clear hst
        rcases hbi with ⟨hp0, rfl⟩ | ⟨hp0, rfl⟩
        · have e0 := inv_none hrun.out HST.out hp0
          have E0 : Hid (R = false) := e0
          clear e0
          go_wp2_with fail
          go_ret
          exact ⟨ret_bool E0.out.symm, hbel⟩
        · obtain ⟨hinv', hrun'⟩ := inv_back hinv hrun.out hj HST.out hp0
          have HRUN : Hid (R = (M n s.size (Wt tk) (Ot tk s) p (b + 1) || BV n s.size (Wt tk) (Ot tk s) p (b + 1))) := hrun'
          clear hrun' hrun
          go_wp2_with fail
          go_roundg (meas n s.size p (b + 1) p)
          case measure => rw [HGK.out]; exact meas_back hinv hj hp0
          case rel =>
            go_light
            exact ⟨p, b + 1, p, b + 1, rfl, rfl, by go_num, .inr ⟨hp0, rfl⟩, by go_num, hinv', HRUN, hbel⟩
    · obtain rfl : j = s.size := by omega
      have hend := inv_end hinv hrun.out
      have HE : Hid (R = M n s.size (Wt tk) (Ot tk s) i s.size) := hend
      clear hend hrun hbi HGK
      obtain ⟨w2, rfl⟩ : ∃ w2 : World, w2 = wr := ⟨_, rfl⟩
      go_wp2
      go_loop [9] (fun v => ∃ q : Nat, q ≤ n ∧ v = .int .i64 q ∧ Hid (R = M n s.size (Wt tk) (Ot tk s) q s.size)) (fun v => n - (intOf v).toNat)
      case atStart => exact ⟨i, hin, rfl, HE⟩
      case round =>
        obtain ⟨q, hq, rfl, hr⟩ := hrel
        by_cases hqn : q < n
        · cases hW : (tk q).k == 2 with
          | true =>
            have e0 : R = M n s.size (Wt tk) (Ot tk s) (q + 1) s.size := by rw [hr.out]; exact M_star_end hqn hW
            have E0 : Hid (R = M n s.size (Wt tk) (Ot tk s) (q + 1) s.size) := e0
            clear e0
            go_wp2_with (first | (go_at_call 11; refine (wild_at sb g off n cp q tk _ hqn hsb1 HT.out).mono ?_; rintro e w' ⟨rfl, rfl⟩))
            go_round
            case rel => exact ⟨q + 1, by omega, by go_num, E0⟩
            case measure => simp [intOf]; omega
          | false =>
            have e0 : R = false := by rw [hr.out]; exact M_one_end hqn hW
            have E0 : Hid (R = false) := e0
            clear e0
            have hne : ((q : Int) == (n : Int)) = false := by simp; omega
            go_wp2_with (first | (go_at_call 11; refine (wild_at sb g off n cp q tk _ hqn hsb1 HT.out).mono ?_; rintro e w' ⟨rfl, rfl⟩))
            go_ret
            exact ⟨ret_bool E0.out.symm, hbel⟩
        · obtain rfl : q = n := by omega
          have e0 : R = true := by rw [hr.out, M_end]; simp
          have E0 : Hid (R = true) := e0
          clear e0
          go_wp2_with fail
          go_ret
          exact ⟨ret_bool E0.out.symm, hbel⟩

set_option maxRecDepth 100000 in
theorem name_any (g off n cp : Nat) (s : ByteArray) (tk : Nat → Tk) (w : World) (hn : n ≤ 4096) (hs : s.size ≤ 4096) (ht : Toks w g off n tk) (hok : ∀ i, i < n → (tk i).ok) :
    Calls Try.prog 8 #[.slice (some ⟨g, off, none⟩) n cp, .string s] w fun e w' => e = .returned (.bool (M n s.size (Wt tk) (Ot tk s) 0 0)) ∧ Below w.heap.size w w' := by
  have hbel : Below w.heap.size w ((w.alloc (.cells #[.slice (some ⟨g, off, none⟩) n cp] 24)).alloc (.cells #[.string s] 9)) := ((Below.refl _ _).alloc (Nat.le_refl _) _).alloc (by simp) _
  go_enter Try.func8, Try.ntmps8
  go_wp2_with fail
  refine (run_any w.heap.size (w.heap.size + 1) g off n cp s tk _ hn hs (al (by rw [World.cell?_alloc_new]; rfl)) ?_ (ht.below ht.lt hbel) hok).mono ?_
  · have := World.cell?_alloc_new (w.alloc (.cells #[.slice (some ⟨g, off, none⟩) n cp] 24)) #[.string s] 9 0
    rw [show (w.alloc (.cells #[.slice (some ⟨g, off, none⟩) n cp] 24)).heap.size = w.heap.size + 1 by simp] at this
    exact this
  rintro e w1 ⟨rfl, hb1⟩
  go_wp2
  go_ret
  exact ⟨rfl, hbel.trans (hb1.mono hbel.size)⟩

set_option maxRecDepth 100000 in
theorem zname_any (g off n cp : Nat) (s : ByteArray) (tk : Nat → Tk) (w : World) (hn : n ≤ 4096) (hs : s.size ≤ 4096) (ht : Toks w g off n tk) (hok : ∀ i, i < n → (tk i).ok) :
    Calls Try.prog 6 #[.slice (some ⟨g, off, none⟩) n cp, .string s] w fun e w' => e = .returned (.bool (M n s.size (Wt tk) (Ot tk s) 0 0)) ∧ Below w.heap.size w w' := by
  go_enter Try.func6, Try.ntmps6
  go_wp2_with fail
  refine (name_any g off n cp s tk _ hn hs ht hok).mono ?_
  rintro e w1 ⟨rfl, hb1⟩
  go_wp2
  go_ret
  exact ⟨rfl, hb1⟩
end Go.Proofs.Qxb6617621a

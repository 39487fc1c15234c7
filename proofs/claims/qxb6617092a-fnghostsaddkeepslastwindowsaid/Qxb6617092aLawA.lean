/-
  THE LAW 'FnGhostsAddKeepsLastWindow': the walk.
-/
import Derived.Test.Qxb6617092aZAdd
import Derived.Deep.RegionHeld3
namespace Go.Proofs.Qxb6617092a
open Go.RowKit Go.Maps

/-! ### the plain side -/
/-- The first k hashes. -/
def hl (H : Nat → Int) (k : Nat) : List Int := (List.range k).map H
theorem hl_length (H : Nat → Int) (k : Nat) : (hl H k).length = k := by simp [hl]
theorem hl_succ (H : Nat → Int) (k : Nat) : hl H (k + 1) = hl H k ++ [H k] := by simp [hl, List.range_succ]
theorem nth_hl (H : Nat → Int) {k j : Nat} (h : j < k) : nth (hl H k) j = H j := by simp [nth, hl, h]
theorem hl_wf {H : Nat → Int} {k : Nat} (h : ∀ j, j < k → (Lit.int .u64 (H j)).wf = true) (j : Nat) : (Lit.int .u64 (nth (hl H k) j)).wf = true := by
  by_cases hj : j < k
  · rw [nth_hl H hj]; exact h j hj
  · have e : nth (hl H k) j = 0 := by
      unfold nth
      rw [List.getD_eq_getElem?_getD, List.getElem?_eq_none (by simp [hl]; omega)]
      rfl
    rw [e]
    decide

/-- The last of the first k places at which x stands. -/
def lastIx (H : Nat → Int) : Nat → Int → Option Nat
  | 0, _ => none
  | k + 1, x => if H k = x then some k else lastIx H k x

theorem lastIx_step (H : Nat → Int) (k f f' : Nat) (h : f ≤ f') : dropTo (upd (dropTo (lastIx H k) f) (H k) (some k)) f' = dropTo (lastIx H (k + 1)) f' := by
  funext x
  unfold dropTo upd
  rw [lastIx]
  by_cases e : x = H k
  · subst e; simp
  · rw [if_neg e, if_neg (fun e' => e e'.symm)]
    show (match (match lastIx H k x with | some j => if j < f then none else some j | none => none) with | some j => if j < f' then none else some j | none => none) = _
    cases hx : lastIx H k x with
    | none => rfl
    | some j =>
      by_cases h1 : j < f
      · have : j < f' := by omega
        simp [h1, this]
      · simp [h1]

theorem lastIx_lt {H : Nat → Int} {x : Int} {m : Nat} : ∀ {k : Nat}, lastIx H k x = some m → m < k ∧ H m = x
  | 0, h => by cases h
  | k + 1, h => by
    rw [lastIx] at h
    split at h
    · rename_i e
      obtain rfl : k = m := by simpa using h
      exact ⟨by omega, e⟩
    · have := lastIx_lt h
      exact ⟨by omega, this.2⟩

theorem lastIx_ge {H : Nat → Int} {i m : Nat} : ∀ {k : Nat}, i < k → lastIx H k (H i) = some m → i ≤ m
  | 0, h, _ => by omega
  | k + 1, h, hm => by
    rw [lastIx] at hm
    split at hm
    · obtain rfl : k = m := by simpa using hm
      omega
    · rename_i e
      by_cases hik : i = k
      · subst hik; exact absurd rfl e
      · exact lastIx_ge (by omega) hm

/-- Is place q of those j the one by which its hash is remembered? -/
def pB (H : Nat → Int) (j fz : Nat) : Nat → Bool := fun q => decide (dropTo (lastIx H j) fz (nth (hl H j) q) = some q)
theorem pB_start {H : Nat → Int} {j fz : Nat} {D : DataW Unit} (r : Rem D (hl H j) fz (dropTo (lastIx H j) fz)) : cntTo (pB H j fz) fz = 0 :=
  cntTo_zero fun q hq => decide_eq_false fun e => by have := (r.idx _ _ e).1; omega
theorem dropTo_at {R : Int → Option Nat} {f m : Nat} {x : Int} (h : R x = some m) (hf : f ≤ m) : dropTo R f x = some m := by
  unfold dropTo
  rw [h]
  simp
  omega
theorem pB_yes {H : Nat → Int} {j fz q : Nat} (hq : q < j) (hf : fz ≤ q) (h : lastIx H j (H q) = some q) : pB H j fz q = true := by
  unfold pB
  rw [nth_hl H hq, dropTo_at h hf]
  simp
theorem pB_no {H : Nat → Int} {j fz q m : Nat} (hq : q < j) (hf : fz ≤ m) (h : lastIx H j (H q) = some m) (hne : m ≠ q) : pB H j fz q = false := by
  unfold pB
  rw [nth_hl H hq, dropTo_at h hf]
  simpa using hne

theorem GV.pos {B : Nat} {ao : Option Addr} {cap : Nat} {r : Option Nat} {all : List Int} {f : Nat} {R : Int → Option Nat} {w : World} (h : GV B ao cap r all f R w) (hp : 0 < all.length) :
    ∃ mb n D, r = some mb ∧ RowAt w B (.slice ao (all.length - f) cap) (all.length - f) (fun j => nth all (f + j)) ∧ w.ownsMap Try.prog 24 (plainElem Try.prog 24) mb n D ∧ Rem D all f R ∧ B ≤ mb := by
  rcases h with ⟨_, _, _, rfl, _⟩ | ⟨mb, n, D, hr, hB, hrow, _, hown, hrem, _⟩
  · simp at hp
  · exact ⟨mb, n, D, hr, hrow, hown, hrem, hB⟩

theorem own_heap {w w' : World} {mb n : Nat} {D : DataW Unit} (h : w.ownsMap Try.prog 24 (plainElem Try.prog 24) mb n D) (hh : w'.heap = w.heap) : w'.ownsMap Try.prog 24 (plainElem Try.prog 24) mb n D := by
  obtain ⟨es, clock, hb, q⟩ := h
  exact ⟨es, clock, by rw [hh]; exact hb, q⟩

theorem look_rem {W : World} {mb n : Nat} {D : DataW Unit} {all : List Int} {f m : Nat} {R : Int → Option Nat} {h : Int} (hown : W.ownsMap Try.prog 24 (plainElem Try.prog 24) mb n D) (hrem : Rem D all f R) (hwh : (Lit.int .u64 h).wf = true) (hR : R h = some m) :
    (Instr.lookup 28 (.map (some mb)) (.int .u64 h) true).run Try.prog W = .ok (.tuple #[.int .u64 m, .bool true]) W := by
  obtain ⟨v, ps, hrun, hv⟩ := hown.look_ok law24 Try.underlying28 (zero24 _) (plainElem_int Try.underlying24 (by decide)) (keyOf_int_mk Try.underlying24 hwh)
  have h1 := hrem.val h m hR
  have h2 := hrem.has h
  rw [hR] at h2
  have h3 : D.atKey (.int .u64 h) (.lit (.int .u64 0)) = .lit (.int .u64 m) := h1
  have h4 : Maps.has D (.int .u64 h) = true := h2
  rw [h3] at hv
  rw [h4] at hrun
  obtain ⟨c, rfl, hc, _⟩ := plainElem_int_inv Try.underlying24 hv
  obtain rfl : (m : Int) = c := by simp at hc; exact hc.1
  exact hrun

theorem look_none {W : World} {mb n : Nat} {D : DataW Unit} {all : List Int} {f : Nat} {R : Int → Option Nat} {h : Int} (hown : W.ownsMap Try.prog 24 (plainElem Try.prog 24) mb n D) (hrem : Rem D all f R) (hwh : (Lit.int .u64 h).wf = true) (hR : R h = none) :
    (Instr.lookup 28 (.map (some mb)) (.int .u64 h) true).run Try.prog W = .ok (.tuple #[.int .u64 0, .bool false]) W := by
  obtain ⟨v, ps, hrun, hv⟩ := hown.look_ok law24 Try.underlying28 (zero24 _) (plainElem_int Try.underlying24 (by decide)) (keyOf_int_mk Try.underlying24 hwh)
  have h2 := hrem.has h
  rw [hR] at h2
  have h4 : Maps.has D (.int .u64 h) = false := h2
  rw [atKey_of_not_has h4] at hv
  rw [h4] at hrun
  obtain ⟨c, rfl, hc, _⟩ := plainElem_int_inv Try.underlying24 hv
  obtain rfl : (0 : Int) = c := by simp at hc; exact hc.1
  exact hrun

set_option maxRecDepth 100000 in
set_option maxHeartbeats 1000000 in
theorem law_pos (b off len cap : Nat) (H L : Nat → Int) (w : World) (hlen : 0 < len) (hlen' : len ≤ 4096) (hbw : b < w.heap.size)
    (cH : ∀ i, i < len → w.cell? ⟨b, off + i * 2, none⟩ = some (.int .u64 (H i))) (cL : ∀ i, i < len → w.cell? ⟨b, off + i * 2 + 1, none⟩ = some (.int .i64 (L i)))
    (wH : ∀ i, i < len → (Lit.int .u64 (H i)).wf = true) (wL : ∀ i, i < len → -9223372036854775808 ≤ L i ∧ L i ≤ 9223372036854775807) :
    Calls Try.prog 3 #[.slice (some ⟨b, off, none⟩) len cap] w fun e w' => e = .returned (.bool true) ∧ Below w.heap.size w w' := by
  have hd : decide ((4096 : Int) < (len : Int)) = false := decide_eq_false (by omega)
  go_enter Try.func3, Try.ntmps3
  go_wp2
  go_loop [3] (fun i => ∃ k : Nat, k ≤ len ∧ i = .int .i64 k ∧ ∀ j, j < k → 0 ≤ L j) (fun i => len - (intOf i).toNat)
  case atStart => exact ⟨0, Nat.zero_le _, rfl, fun j h => absurd h (Nat.not_lt_zero _)⟩
  case round =>
    obtain ⟨k, hk, rfl, hpos⟩ := hrel
    have HP : Hid (∀ j, j < k → 0 ≤ L j) := hpos
    clear hpos
    by_cases hlt : k < len
    · have c1 := cL k hlt
      by_cases hL0 : L k < 0
      · go_wp2
        go_ret
        exact ⟨rfl, Below.refl _ _⟩
      · go_wp2
        go_round
        case rel => exact ⟨k + 1, by omega, by go_num, fun j hj => by
                      by_cases e : j = k
                      · subst e; omega
                      · exact HP.out j (by omega)⟩
        case measure => simp [intOf]; omega
    · obtain rfl : k = len := by omega
      go_wp2
      go_loopg [4, 5, 6, 7, 8] k (fun gk o f m kp i wr => ∃ j fz : Nat, gk + j = k ∧ i = .int .i64 j ∧ fz ≤ j ∧ (∃ ao cp r, o = .slice ao (j - fz) cp ∧ m = .map r ∧ GV w.heap.size ao cp r (hl H j) fz (dropTo (lastIx H j) fz) wr) ∧ f = .int .u64 fz ∧ kp = .int .i64 ((j - fz : Nat) : Int) ∧ Below w.heap.size w wr)
      case atStart =>
        refine ⟨0, 0, rfl, rfl, Nat.le_refl _, ⟨none, 0, none, rfl, rfl, .inl ⟨rfl, rfl, rfl, rfl, rfl, fun x => rfl⟩⟩, rfl, rfl, Below.refl _ _⟩
      case round =>
        obtain ⟨j, fz, hgk, rfl, hfz, ⟨ao, cp, r, rfl, rfl, hgv⟩, rfl, rfl, hbel⟩ := hrel
        by_cases hj : j < k
        · have cHj : wr.cell? ⟨b, off + j * 2, none⟩ = some (.int .u64 (H j)) := (hbel.cell (p := ⟨b, off + j * 2, none⟩) hbw).trans (cH j hj)
          have cLj : wr.cell? ⟨b, off + j * 2 + 1, none⟩ = some (.int .i64 (L j)) := (hbel.cell (p := ⟨b, off + j * 2 + 1, none⟩) hbw).trans (cL j hj)
          obtain ⟨l, hl0⟩ := Int.eq_ofNat_of_zero_le (HP.out j hj)
          rw [hl0] at cLj
          have hlb := (wL j hj).2
          rw [hl0] at hlb
          go_wp2
          have hwl := hl_wf (k := j) (fun i hi => wH i (by omega))
          have hwj := wH j hj
          have HL : Hid (L j = (l : Int)) := hl0
          clear hl0
          go_cut [4, 5, 6] (fun o f m wc => ∃ ao' cp' r' fz', Hid (fz' = max fz (j + 1 - l)) ∧ o = .slice ao' (j + 1 - fz') cp' ∧ f = .int .u64 (fz' : Int) ∧ m = .map r' ∧ GV w.heap.size ao' cp' r' (hl H (j + 1)) fz' (dropTo (lastIx H (j + 1)) fz') wc ∧ Below w.heap.size w wc)
          case first =>
            go_region_held3 (fun w' => w'.cell? ⟨b, off + j * 2, none⟩ = some (.int .u64 (H j)) ∧ w'.cell? ⟨b, off + j * 2 + 1, none⟩ = some (.int .i64 (l : Int))) (first | exact ⟨cHj, cLj⟩ | exact ⟨by assumption, by assumption⟩)
              (first | (go_at_call 6; refine (zadd_any w.heap.size ao cp r (hl H j) j fz (dropTo (lastIx H j) fz) (H j) l _ (hl_length H j) (by exact hgv.drewN rfl) (by exact hbel.size) (by omega) (by omega) hwj hwl).mono ?_; rintro e w1 ⟨ao', cp', r', f', hf', rfl, hgv', hbel'⟩; have k1 := (hbel'.below.cell (p := ⟨b, off + j * 2, none⟩) hbw).trans cHj; have k2 := (hbel'.below.cell (p := ⟨b, off + j * 2 + 1, none⟩) hbw).trans cLj))
            all_goals
              go_wp2_with fail
              go_meet
              case rel =>
                go_light
                refine ⟨ao', cp', r', f', hf', rfl, rfl, rfl, ?_, hbel.drew.trans hbel'.below⟩
                rw [hl_succ, ← lastIx_step H j fz f' (by have := hf'.out; omega)]
                exact hgv'
          case rest =>
            obtain ⟨ao', cp', r', fz', hfz', rfl, rfl, rfl, hgv', hbel'⟩ := hcut
            have hfz2 := hfz'.out
            have hfj : fz' ≤ j + 1 := by omega
            clear hgv hwl hwj cHj cLj
            have cLj : wc.cell? ⟨b, off + j * 2 + 1, none⟩ = some (.int .i64 (l : Int)) := by rw [hbel'.cell (p := ⟨b, off + j * 2 + 1, none⟩) hbw, cL j hj, HL.out]
            by_cases hkl : l < j - fz + 1
            · have e1 : l = j + 1 - fz' := by omega
              have E1 : Hid (l = j + 1 - fz') := e1
              clear hfz' hfz2 e1
              go_wp2
              go_roundg (gk - 1)
              case measure => omega
              case rel =>
                go_light
                exact ⟨j + 1, fz', by omega, by go_num, hfj, ⟨ao', cp', r', rfl, rfl, hgv'⟩, rfl, by rw [E1.out], hbel'⟩
            · have e1 : j - fz + 1 = j + 1 - fz' := by omega
              have E1 : Hid (j - fz + 1 = j + 1 - fz') := e1
              clear hfz' hfz2 e1
              go_wp2
              go_roundg (gk - 1)
              case measure => omega
              case rel =>
                go_light
                exact ⟨j + 1, fz', by omega, by go_num, hfj, ⟨ao', cp', r', rfl, rfl, hgv'⟩, rfl, by rw [← E1.out]; go_num, hbel'⟩
        · obtain rfl : j = k := by omega
          obtain ⟨mb, n, D, rfl, hrow, hown, hrem, hB⟩ := hgv.pos (by rw [hl_length]; exact hlen)
          rw [hl_length] at hrow
          have est : (j : Int) - ((j - fz : Nat) : Int) = (fz : Int) := by omega
          have hsize := hrem.size
          rw [hl_length] at hsize
          have HS : Hid (Maps.size D = cntTo (pB H j fz) j) := hsize
          clear hsize hgv
          go_wp2
          obtain ⟨w2, rfl⟩ : ∃ w2 : World, w2 = wr := ⟨_, rfl⟩
          clear hk hlt hj hgk est
          go_loopw [11, 12] (fun d i w3 => ∃ q : Nat, fz ≤ q ∧ q ≤ j ∧ i = .int .i64 q ∧ d = .int .i64 (cntTo (pB H j fz) q) ∧ Hid (w3.heap = w2.heap) ∧ Below w.heap.size w w3) (fun _ i _ => j - (intOf i).toNat)
          case atStart => exact ⟨fz, Nat.le_refl _, hfz, rfl, by rw [pB_start hrem]; rfl, rfl, hbel⟩
          case round =>
            obtain ⟨w3, rfl⟩ : ∃ w3 : World, w3 = wr := ⟨_, rfl⟩
            obtain ⟨q, hq1, hq2, rfl, rfl, hh3, hbel3⟩ := hrel
            have hcb := cntTo_le (pB H j fz) q
            obtain ⟨ct, hct⟩ : ∃ ct, ct = cntTo (pB H j fz) q := ⟨_, rfl⟩
            rw [← hct] at hcb ⊢
            have HCT : Hid (ct = cntTo (pB H j fz) q) := hct
            clear hct
            by_cases hq : q < j
            · obtain ⟨g, goff, rfl, hBg, hcell⟩ := hrow.cell (by omega)
              have hc0 : w3.cell? ⟨g, goff + (q - fz), none⟩ = some (.int .u64 (H q)) := by
                have := hcell (q - fz) (by omega)
                rw [show fz + (q - fz) = q by omega, nth_hl H hq] at this
                rw [← this]
                exact World.cell?_of_block (by rw [hh3.out])
              have hc1 : w3.cell? ⟨b, off + q * 2, none⟩ = some (.int .u64 (H q)) := (hbel3.cell (p := ⟨b, off + q * 2, none⟩) hbw).trans (cH q hq)
              clear hcell
              go_wp2
              go_quiet (fail)
              go_wp2
              go_loopw [13, 14] (fun nw s w4 => ∃ t m : Nat, q < t ∧ t ≤ j ∧ m < t ∧ s = .int .i64 t ∧ nw = .int .i64 m ∧ Hid (lastIx H t (H q) = some m) ∧ Hid (w4.heap = w2.heap) ∧ Below w.heap.size w w4) (fun _ s _ => j - (intOf s).toNat)
              case atStart => exact ⟨q + 1, q, by omega, by omega, by omega, by go_num, rfl, by simp [Hid, lastIx], hh3, below_drewN hbel3 _⟩
              case round =>
                obtain ⟨w4, rfl⟩ : ∃ w4 : World, w4 = wr := ⟨_, rfl⟩
                obtain ⟨t, m, ht1, ht2, hm, rfl, rfl, hlast, hh4, hbel4⟩ := hrel
                clear hc0 hc1
                by_cases ht : t < j
                · have hc1 : w4.cell? ⟨b, off + q * 2, none⟩ = some (.int .u64 (H q)) := (hbel4.cell (p := ⟨b, off + q * 2, none⟩) hbw).trans (cH q hq)
                  have hc2 : w4.cell? ⟨b, off + t * 2, none⟩ = some (.int .u64 (H t)) := (hbel4.cell (p := ⟨b, off + t * 2, none⟩) hbw).trans (cH t ht)
                  by_cases he : H t = H q
                  · have hE : (H t == H q) = true := by simp [he]
                    have HE : Hid (H t = H q) := he
                    clear he
                    go_wp2
                    go_quiet (fail)
                    go_wp2
                    go_roundw
                    case rel => exact ⟨t + 1, t, by omega, by omega, by omega, by go_num, rfl, by simp [Hid, lastIx, HE.out], hh4, below_drewN hbel4 _⟩
                    case measure => simp [intOf]; omega
                  · have hE : (H t == H q) = false := by simp [he]
                    have HE : Hid (¬ H t = H q) := he
                    clear he
                    go_wp2
                    go_quiet (fail)
                    go_wp2
                    go_roundw
                    case rel => exact ⟨t + 1, m, by omega, by omega, by omega, by go_num, rfl, by simp [Hid, lastIx, HE.out, hlast.out], hh4, below_drewN hbel4 _⟩
                    case measure => simp [intOf]; omega
                · obtain rfl : t = j := by omega
                  have hmq := lastIx_ge hq hlast.out
                  have hown4 := own_heap hown hh4.out
                  have hlk := look_rem hown4 hrem (wH q hq) (dropTo_at hlast.out (by omega))
                  have hc1 : w4.cell? ⟨b, off + q * 2, none⟩ = some (.int .u64 (H q)) := (hbel4.cell (p := ⟨b, off + q * 2, none⟩) hbw).trans (cH q hq)
                  by_cases hmeq : m = q
                  · have hE : ((m : Int) == (q : Int)) = true := by simp [hmeq]
                    have HM : Hid (m = q) := hmeq
                    clear hmeq
                    go_wp2
                    go_roundw
                    case rel =>
                      refine ⟨q + 1, by omega, by omega, by go_num, ?_, hh4, hbel4⟩
                      have hl2 := hlast.out
                      rw [HM.out] at hl2
                      rw [cntTo, pB_yes hq hq1 hl2, HCT.out]
                      go_num
                    case measure => simp [intOf]; omega
                  · have hE : ((m : Int) == (q : Int)) = false := by simp; omega
                    have HM : Hid (m ≠ q) := hmeq
                    clear hmeq
                    go_wp2
                    go_roundw
                    case rel =>
                      refine ⟨q + 1, by omega, by omega, by go_num, ?_, hh4, hbel4⟩
                      rw [cntTo, pB_no hq (by omega) hlast.out HM.out, HCT.out]
                      rfl
                    case measure => simp [intOf]; omega
            · obtain rfl : q = j := by omega
              have hown3 := own_heap hown hh3.out
              have hln := fun ty => hown3.len Try.underlying28 ty
              have hs := HS.out.trans HCT.out.symm
              go_wp2
              go_ret
              exact ⟨rfl, hbel3⟩

end Go.Proofs.Qxb6617092a

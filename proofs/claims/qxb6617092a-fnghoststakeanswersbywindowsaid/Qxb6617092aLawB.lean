/-
  THE LAW 'FnGhostsTakeAnswersByWindow': the walk.
-/
import Derived.Test.Qxb6617092aMemB
import Derived.Deep.OwnRows
namespace Go.Proofs.Qxb6617092a
open Go.RowKit Go.Maps

theorem Try.info3 : (Try.prog.info? 3).map (fun i => (i.zero, i.size, i.bytes)) = some (some (.int .i64 0), 1, 8) := by kernel_rfl

theorem run_make0 (n : Nat) (hn : n ≤ 4096) (w : World) : (Instr.makeSlice 27 (.int .i64 0) (.int .i64 (n : Int))).run Try.prog w = .ok (.slice (some ⟨w.heap.size, 0, none⟩) 0 n) (w.alloc (.cells (madeCells #[.int .u64 0] n) 24)) := by
  obtain ⟨i0, hi, hz0, hz1, hz2⟩ := info_parts Try.info24
  have hs : i0.size = 1 := hz1
  have hb : i0.bytes = 8 := hz2
  have hr := run_make (P := Try.prog) w 27 24 i0 (.int .u64 0) Try.underlying27 hi hz0 .i64 .i64 0 n (Int.le_refl _) (by omega) (by rw [hb]; omega) (by omega)
  simp only [Int.toNat_natCast, hs, Nat.mul_one] at hr
  exact hr

set_option maxRecDepth 100000 in
set_option maxHeartbeats 2000000 in
theorem lawB_pos (b off len cap : Nat) (A : Nat → Bool) (H L : Nat → Int) (w : World) (hlen : 0 < len) (hlen' : len ≤ 4096) (hbw : b < w.heap.size)
    (cA : ∀ i, i < len → w.cell? ⟨b, off + i * 3, none⟩ = some (.bool (A i))) (cH : ∀ i, i < len → w.cell? ⟨b, off + i * 3 + 1, none⟩ = some (.int .u64 (H i))) (cL : ∀ i, i < len → w.cell? ⟨b, off + i * 3 + 2, none⟩ = some (.int .i64 (L i)))
    (wH : ∀ i, i < len → (Lit.int .u64 (H i)).wf = true) (wL : ∀ i, i < len → -9223372036854775808 ≤ L i ∧ L i ≤ 9223372036854775807) :
    Calls Try.prog 4 #[.slice (some ⟨b, off, none⟩) len cap] w fun e w' => e = .returned (.bool true) ∧ Below w.heap.size w w' := by
  have hd : decide ((4096 : Int) < (len : Int)) = false := decide_eq_false (by omega)
  have hmk1 := fun W => run_make_row' (P := Try.prog) 36 3 (.int .i64 0) 8 Try.underlying36 Try.info3 rfl .i64 .i64 len (by omega) (by omega) W
  have hmk2 := fun W => run_make0 len hlen' W
  go_enter Try.func4, Try.ntmps4
  go_wp2
  go_loop [3] (fun i => ∃ k : Nat, k ≤ len ∧ i = .int .i64 k ∧ ∀ j, j < k → A j = true → 0 ≤ L j) (fun i => len - (intOf i).toNat)
  case atStart => exact ⟨0, Nat.zero_le _, rfl, fun j h => absurd h (Nat.not_lt_zero _)⟩
  case round =>
    obtain ⟨k, hk, rfl, hpos⟩ := hrel
    have HP : Hid (∀ j, j < k → A j = true → 0 ≤ L j) := hpos
    clear hpos
    by_cases hlt : k < len
    · have c1 := cL k hlt
      have c2 := cA k hlt
      cases hA : A k with
      | false =>
        go_wp2
        go_round
        case rel => exact ⟨k + 1, by omega, by go_num, fun j hj hAj => by
                      by_cases e : j = k
                      · subst e; rw [hA] at hAj; cases hAj
                      · exact HP.out j (by omega) hAj⟩
        case measure => simp [intOf]; omega
      | true =>
        by_cases hL0 : L k < 0
        · go_wp2
          go_ret
          exact ⟨rfl, Below.refl _ _⟩
        · go_wp2
          go_round
          case rel => exact ⟨k + 1, by omega, by go_num, fun j hj hAj => by
                        by_cases e : j = k
                        · subst e; omega
                        · exact HP.out j (by omega) hAj⟩
          case measure => simp [intOf]; omega
    · obtain rfl : k = len := by omega
      go_wp2
      have hM0 := Mem.start w k A H (c1 := madeCells #[.int .i64 0] k) (c2 := madeCells #[.int .u64 0] k) (by simp [madeCells]) (by simp [madeCells])
      clear hmk1 hmk2
      go_loopg [6, 7, 8, 9, 10, 11] k (fun gk ah o f m kp i wr => ∃ (j na fz : Nat) (ao : Option Addr) (cp : Nat) (r : Option Nat), gk + j = k ∧ i = .int .i64 j ∧ ah = .slice (some ⟨w.heap.size + 1, 0, none⟩) na k ∧ o = .slice ao (na - fz) cp ∧ f = .int .u64 fz ∧ m = .map r ∧ kp = .int .i64 ((na - fz : Nat) : Int) ∧ Mem w k A H j na fz ao cp r wr)
      case atStart => exact ⟨0, 0, 0, none, 0, none, rfl, rfl, rfl, rfl, rfl, rfl, rfl, hM0⟩
      case round =>
        clear hM0
        obtain ⟨j, na, fz, ao, cp, r, hgk, rfl, rfl, rfl, rfl, rfl, rfl, hM⟩ := hrel
        have hnj : na ≤ j := by rw [hM.num]; exact cntTo_le A j
        have hfz := hM.hf
        have hsz := hM.sz
        by_cases hj : j < k
        · obtain ⟨v0, hv0⟩ := hM.ab.there hj
          have hf0 := hM.ab.free j
          have bc : ∀ o', wr.cell? ⟨b, o', none⟩ = w.cell? ⟨b, o', none⟩ := fun o' => hM.bel.cell (p := ⟨b, o', none⟩) hbw
          have cAj := (bc _).trans (cA j hj)
          have cHj := (bc _).trans (cH j hj)
          have cLj := (bc _).trans (cL j hj)
          clear bc
          have hwj := wH j hj
          have hal : (adds A H j).length = na := by rw [adds_length, hM.num]
          have HAL : Hid ((adds A H j).length = na) := hal
          clear hal
          cases hA : A j with
          | true =>
            obtain ⟨l, hl0⟩ := Int.eq_ofNat_of_zero_le (HP.out j hj hA)
            rw [hA] at cAj
            rw [hl0] at cLj
            have hlb := (wL j hj).2
            rw [hl0] at hlb
            have HA : Hid (A j = true) := hA
            clear hA hl0
            have hwa := adds_wf (A := A) (H := H) (k := j) (fun i hi => wH i (by omega))
            go_wp2_with fail
            refine (zadd_any (w.heap.size + 2) ao cp r (adds A H j) na fz (RT A H j fz) (H j) l _ HAL.out (hM.gv1 _ _) (by simp [World.setCell]; omega) (by omega) (by omega) hwj hwa).mono ?_
            rintro e w1 ⟨ao', cp', r', f', hf', rfl, hgv', hfr⟩
            have hob := hfr.kept wr.heap.size _ (by have h1 := heap_alloc_new (wr.setCell ⟨w.heap.size, j, none⟩ (.int .i64 na)) (.cells #[.bool true, .int .u64 (H j), .int .i64 l] 35); rwa [show (wr.setCell ⟨w.heap.size, j, none⟩ (.int .i64 na)).heap.size = wr.heap.size by simp [World.setCell]] at h1)
            obtain ⟨o0, o1, o2, _, _, _⟩ := box_cells hob
            have hs1 : wr.heap.size < w1.heap.size := lt_of_block hob
            have hah : ∀ o, CellsAt (w1.alloc o) (w.heap.size + 1) 24 k na (fun q => .int .u64 (nth (adds A H j) q)) := fun o => (hM.ah1 (.int .i64 na) _).kept ((Below.heap_alloc _ _ _ (by omega)).trans (hfr.below.block _ (by omega)))
            have hfo := hf'.out
            have hf1 : fz ≤ f' := by omega
            have hf2 : f' ≤ na + 1 := by omega
            have hMM := fun o2 => hM.add (o2 := o2) hj HA.out hf1 hf2 hgv' hfr
            by_cases hkl : l < na - fz + 1
            · have e1 : l = na + 1 - f' := by omega
              have E1 : Hid (l = na + 1 - f') := e1
              clear hfo e1 hf' hob hgv' hfr hM
              go_wp2_with (first
                | (at_builtin; refine wpList_append_cellsAt _ rfl _ _ rfl rfl (hah _) (by omega) ⟨w1.heap.size, 0, none⟩ (H j) rfl (by simp [World.cell?_alloc_new]) ?_))
              go_roundg (gk - 1)
              case measure => omega
              case rel =>
                go_light
                exact ⟨j + 1, na + 1, f', ao', cp', r', by omega, by go_num, rfl, rfl, rfl, rfl, by rw [E1.out], hMM _⟩
            · have e1 : na - fz + 1 = na + 1 - f' := by omega
              have E1 : Hid (na - fz + 1 = na + 1 - f') := e1
              clear hfo e1 hf' hob hgv' hfr hM
              go_wp2_with (first
                | (at_builtin; refine wpList_append_cellsAt _ rfl _ _ rfl rfl (hah _) (by omega) ⟨w1.heap.size, 0, none⟩ (H j) rfl (by simp [World.cell?_alloc_new]) ?_))
              go_roundg (gk - 1)
              case measure => omega
              case rel =>
                go_light
                exact ⟨j + 1, na + 1, f', ao', cp', r', by omega, by go_num, rfl, rfl, rfl, rfl, by rw [← E1.out]; go_num, hMM _⟩
          | false =>
            rw [hA] at cAj
            have HA : Hid (A j = false) := hA
            clear hA
            have hnf : na - fz + fz = na := by omega
            have HNF : Hid (na - fz + fz = na) := hnf
            clear hnf
            go_wp2_with fail
            refine (remembered_any b off k cap w.heap.size k j na (na - fz) fz A H (H j) _ (by omega) (by omega) hlen' (by omega) HNF.out (fun i hi => ((hM.bel1 _ _).cell (p := ⟨b, off + i * 3, none⟩) hbw).trans (cA i hi)) (fun i hi => ((hM.bel1 _ _).cell (p := ⟨b, off + i * 3 + 1, none⟩) hbw).trans (cH i hi)) (fun i hi => (hM.ab1 hj _).cell (by omega))).mono ?_
            rintro e w1 ⟨rfl, rfl⟩
            go_wp2_with fail
            refine (ztake_any (w.heap.size + 2) ao cp r (adds A H j) na fz (RT A H j fz) (H j) _ HAL.out (hM.gv1 _ _) (by simp [World.setCell]; omega) hwj).mono ?_
            rintro e w1 ⟨he, hgv', hfr⟩
            rw [show (RT A H j fz (H j)).isSome = remB A H j fz (H j) from rfl] at he
            subst he
            have hMM := hM.take hj HA.out hgv' hfr
            clear hgv' hfr hM
            go_wp2
            go_roundg (gk - 1)
            case measure => omega
            case rel =>
              go_light
              exact ⟨j + 1, na, fz, ao, cp, r, by omega, by go_num, rfl, rfl, rfl, rfl, rfl, hMM⟩
        · obtain rfl : j = k := by omega
          have hE1 : (((na - fz : Nat) : Int) != ((na - fz : Nat) : Int)) = false := by simp
          have est : (na : Int) - ((na - fz : Nat) : Int) = (fz : Int) := by omega
          go_wp2
          obtain ⟨w2, rfl⟩ : ∃ w2 : World, w2 = wr := ⟨_, rfl⟩
          have hal : (adds A H j).length = na := by rw [adds_length, hM.num]
          have HAL : Hid ((adds A H j).length = na) := hal
          clear hk hlt hj hgk hE1 hal
          go_loopw [16] (fun s w3 => ∃ q : Nat, q ≤ na - fz ∧ s = .int .i64 q ∧ Hid (w3.heap = w2.heap) ∧ Below w.heap.size w w3) (fun s _ => na - fz - (intOf s).toNat)
          case atStart => exact ⟨0, Nat.zero_le _, rfl, rfl, hM.bel⟩
          case round =>
            obtain ⟨w3, rfl⟩ : ∃ w3 : World, w3 = wr := ⟨_, rfl⟩
            obtain ⟨q, hq, rfl, hh3, hbel3⟩ := hrel
            by_cases hqn : q < na - fz
            · obtain ⟨g, goff, rfl, hcell⟩ := hM.gv.cells (by rw [HAL.out]; omega)
              have hc0 : w3.cell? ⟨g, goff + q, none⟩ = some (.int .u64 (nth (adds A H j) (fz + q))) := by
                rw [← hcell q (by rw [HAL.out]; exact hqn)]
                exact World.cell?_of_block (by rw [hh3.out])
              have hc1 : w3.cell? ⟨w.heap.size + 1, fz + q, none⟩ = some (.int .u64 (nth (adds A H j) (fz + q))) := by
                rw [← hM.ah.cell (j := fz + q) (by omega)]
                exact World.cell?_of_block (by rw [hh3.out])
              clear hcell
              go_wp2
              go_quiet (fail)
              go_wp2
              go_roundw
              case rel => exact ⟨q + 1, by omega, by go_num, hh3, below_drewN hbel3 _⟩
              case measure => simp [intOf]; omega
            · have hgv3 := hM.gv.drewN hh3.out
              have hab3 : ∀ i, i < j → w3.cell? ⟨w.heap.size, i, none⟩ = some (.int .i64 (cntTo A i)) := fun i hi => by
                rw [← hM.ab.cell hi]
                exact World.cell?_of_block (by rw [hh3.out])
              have cH3 : ∀ i, i < j → w3.cell? ⟨b, off + i * 3 + 1, none⟩ = some (.int .u64 (H i)) := fun i hi => (hbel3.cell (p := ⟨b, off + i * 3 + 1, none⟩) hbw).trans (cH i hi)
              have cA3 : ∀ i, i < j → w3.cell? ⟨b, off + i * 3, none⟩ = some (.bool (A i)) := fun i hi => (hbel3.cell (p := ⟨b, off + i * 3, none⟩) hbw).trans (cA i hi)
              have hln := hgv3.len
              rw [HAL.out, hM.num, cnt_both (Nat.le_refl _)] at hln
              have HLN := (show Hid _ from hln)
              clear hln
              go_wp2
              go_loop [17, 18] (fun c s => ∃ q : Nat, q ≤ j ∧ s = .int .i64 q ∧ c = .int .i64 (cntTo (pT A H j fz) q)) (fun _ s => j - (intOf s).toNat)
              case atStart => exact ⟨0, Nat.zero_le _, rfl, rfl⟩
              case round =>
                obtain ⟨q, hq, rfl, rfl⟩ := hrel
                by_cases hqj : q < j
                · have hcb := cntTo_le (pT A H j fz) q
                  obtain ⟨ct, hct⟩ : ∃ ct, ct = cntTo (pT A H j fz) q := ⟨_, rfl⟩
                  rw [← hct] at hcb ⊢
                  have HCT : Hid (ct = cntTo (pT A H j fz) q) := hct
                  clear hct
                  have c1 := cH3 q hqj
                  go_wp2
                  go_loop [20, 21] (fun lt s => ∃ t : Nat, q < t ∧ t ≤ j ∧ s = .int .i64 t ∧ lt = .bool false ∧ Hid (lastIx H t (H q) = some q)) (fun _ s => j - (intOf s).toNat)
                  case atStart => exact ⟨q + 1, by omega, by omega, by go_num, rfl, by simp [Hid, lastIx]⟩
                  case round =>
                    obtain ⟨t, ht1, ht2, rfl, rfl, hlast⟩ := hrel
                    by_cases ht : t < j
                    · have c2 := cH3 t ht
                      by_cases he : H t = H q
                      · have hE : (H t == H q) = true := by simp [he]
                        have hp : pT A H j fz q = false := by
                          have := lastIx_later ht1 ht he
                          simp [pT, this]
                        have HPF : Hid (pT A H j fz q = false) := hp
                        clear he hp
                        go_wp2
                        go_round
                        case rel => exact ⟨q + 1, by omega, by go_num, by rw [cntTo_succ_no HPF.out, HCT.out]⟩
                        case measure => simp [intOf]; omega
                      · have hE : (H t == H q) = false := by simp [he]
                        have HE : Hid (¬ H t = H q) := he
                        clear he
                        go_wp2
                        go_round
                        case rel => exact ⟨t + 1, by omega, by omega, by go_num, rfl, by simp [Hid, lastIx, HE.out, hlast.out]⟩
                        case measure => simp [intOf]; omega
                    · obtain rfl : t = j := by omega
                      have hR := RT_last (A := A) (f := fz) hlast.out
                      have hlk := hgv3.look (wH q hqj)
                      have c3 := hab3 q hqj
                      have c4 := cA3 q hqj
                      have hcq := cntTo_le A q
                      by_cases hAq : A q = true ∧ fz ≤ cntTo A q
                      · rw [if_pos hAq] at hR
                        rw [hR] at hlk
                        have hp : pT A H t fz q = true := by simp [pT, hlast.out, hAq.1, hAq.2]
                        have HPF : Hid (pT A H t fz q = true) := hp
                        obtain ⟨hA1, hA2⟩ := hAq
                        rw [hA1] at c4
                        obtain ⟨cq, hcqe⟩ : ∃ cq, cq = cntTo A q := ⟨_, rfl⟩
                        rw [← hcqe] at hlk c3 hA2 hcq
                        clear hp hR hcqe hA1
                        have hd : decide ((fz : Int) ≤ (cq : Int)) = true := decide_eq_true (by omega)
                        simp only [Option.getD_some, Option.isSome_some] at hlk
                        clear cA3 hab3 cA
                        go_wp2
                        go_round
                        case rel => exact ⟨q + 1, by omega, by go_num, by rw [cntTo_succ_yes HPF.out, HCT.out]; go_num⟩
                        case measure => simp [intOf]; omega
                      · rw [if_neg hAq] at hR
                        rw [hR] at hlk
                        have hp : pT A H t fz q = false := by
                          cases hA1 : A q with
                          | false => simp [pT, hA1]
                          | true =>
                            have h2 : ¬ fz ≤ cntTo A q := fun h2 => hAq ⟨hA1, h2⟩
                            simp [pT, h2]
                        have HPF : Hid (pT A H t fz q = false) := hp
                        clear hp hR
                        simp only [Option.getD_none, Option.isSome_none] at hlk
                        cases hA1 : A q with
                        | false =>
                          rw [hA1] at c4
                          clear hA1 hAq cA3 hab3 cA
                          go_wp2
                          go_round
                          case rel => exact ⟨q + 1, by omega, by go_num, by rw [cntTo_succ_no HPF.out, HCT.out]⟩
                          case measure => simp [intOf]; omega
                        | true =>
                          have hA2 : ¬ fz ≤ cntTo A q := fun h2 => hAq ⟨hA1, h2⟩
                          rw [hA1] at c4
                          obtain ⟨cq, hcqe⟩ : ∃ cq, cq = cntTo A q := ⟨_, rfl⟩
                          rw [← hcqe] at c3 hA2 hcq
                          clear hA1 hAq cA3 hab3 cA hcqe
                          have hd : decide ((fz : Int) ≤ (cq : Int)) = false := decide_eq_false (by omega)
                          go_wp2
                          go_round
                          case rel => exact ⟨q + 1, by omega, by go_num, by rw [cntTo_succ_no HPF.out, HCT.out]⟩
                          case measure => simp [intOf]; omega
                · obtain rfl : q = j := by omega
                  have hln := HLN.out
                  go_wp2
                  go_ret
                  exact ⟨rfl, hbel3⟩

end Go.Proofs.Qxb6617092a

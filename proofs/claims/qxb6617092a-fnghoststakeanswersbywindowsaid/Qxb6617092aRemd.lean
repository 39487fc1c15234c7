/-
  THE WALK OF 'zzRememberedAt'.
-/
import Derived.Test.Qxb6617092aPlainB
namespace Go.Proofs.Qxb6617092a
open Go.RowKit Go.Maps

set_option maxRecDepth 100000 in
set_option maxHeartbeats 400000 in
theorem remembered_any (b off len cap Ba n k na kp f : Nat) (A : Nat → Bool) (H : Nat → Int) (h : Int) (w : World) (hk : k ≤ len) (hkn : k ≤ n) (hlen : len ≤ 4096) (hna : na ≤ 4096) (hkp : kp + f = na)
    (cA : ∀ i, i < len → w.cell? ⟨b, off + i * 3, none⟩ = some (.bool (A i))) (cH : ∀ i, i < len → w.cell? ⟨b, off + i * 3 + 1, none⟩ = some (.int .u64 (H i))) (cB : ∀ i, i < k → w.cell? ⟨Ba, i, none⟩ = some (.int .i64 (cntTo A i))) :
    Calls Try.prog 8 #[.slice (some ⟨b, off, none⟩) len cap, .slice (some ⟨Ba, 0, none⟩) n n, .int .i64 k, .int .u64 h, .int .i64 na, .int .i64 kp] w fun e w' => e = .returned (.bool (remB A H k f h)) ∧ w' = w := by
  go_enter Try.func8, Try.ntmps8
  go_wp2
  go_loop [13] (fun j => ∃ t : Nat, t ≤ k ∧ j = .int .i64 ((t : Int) - 1) ∧ Hid (lastIx H k h = lastIx H t h)) (fun j => (intOf j + 1).toNat)
  case atStart => exact ⟨k, Nat.le_refl _, rfl, rfl⟩
  case round =>
    obtain ⟨t, ht, rfl, hl⟩ := hrel
    cases t with
    | zero =>
      rw [show (((0 : Nat) : Int) - 1) = (-1 : Int) from rfl]
      have e0 : remB A H k f h = false := remB_none (by rw [hl.out]; rfl)
      have E0 : Hid (remB A H k f h = false) := e0
      clear e0
      go_wp2
      go_ret
      exact ⟨by rw [E0.out]; rfl, rfl⟩
    | succ q =>
      rw [show (((q + 1 : Nat) : Int) - 1) = (q : Int) by omega]
      have c1 := cA q (by omega)
      have c2 := cH q (by omega)
      have c3 := cB q (by omega)
      by_cases he : H q = h
      · have hE : (H q == h) = true := by simp [he]
        have hq : lastIx H k h = some q := by rw [hl.out, lastIx, if_pos he]
        have HQ : Hid (lastIx H k h = some q) := hq
        clear hq he
        have hcl := Nat.le_trans (cntTo_le A q) (Nat.le_trans (by omega : q ≤ k) hk)
        cases hA : A q with
        | false =>
          have e0 : remB A H k f h = false := by rw [remB_at HQ.out, hA]; rfl
          have E0 : Hid (remB A H k f h = false) := e0
          clear e0
          go_wp2
          go_ret
          exact ⟨by rw [E0.out]; rfl, rfl⟩
        | true =>
          by_cases hf : f ≤ cntTo A q
          · have e0 : remB A H k f h = true := by rw [remB_at HQ.out, hA]; simp [hf]
            have E0 : Hid (remB A H k f h = true) := e0
            have hd : decide ((na : Int) - (kp : Int) ≤ (cntTo A q : Int)) = true := decide_eq_true (by omega)
            clear e0
            go_wp2
            go_ret
            exact ⟨by rw [E0.out]; rfl, rfl⟩
          · have e0 : remB A H k f h = false := by rw [remB_at HQ.out, hA]; simp [hf]
            have E0 : Hid (remB A H k f h = false) := e0
            have hd : decide ((na : Int) - (kp : Int) ≤ (cntTo A q : Int)) = false := decide_eq_false (by omega)
            clear e0
            go_wp2
            go_ret
            exact ⟨by rw [E0.out]; rfl, rfl⟩
      · have hE : (H q == h) = false := by simp [he]
        have hq : lastIx H k h = lastIx H q h := by rw [hl.out, lastIx, if_neg he]
        have HQ : Hid (lastIx H k h = lastIx H q h) := hq
        clear hq he
        go_wp2
        go_round
        case rel => exact ⟨q, by omega, rfl, HQ⟩
        case measure => simp [intOf]
end Go.Proofs.Qxb6617092a

/-
  THE CONTRACTS OF profileClassID, isDERClassID, sameBytes.
-/
import Derived.Test.Qxb6617602aProf
import Derived.Deep.QuietTactic
import Derived.BigQuiet
import Derived.WalkSmall
namespace Go.Proofs.Qxb6617602a
open Go.RowKit

/-- WHAT A SLICE OF BYTES HOLDS. -/
def Bytes (w : World) (ao : Option Addr) (l : List Int) : Prop :=
  l.length ≤ 1048576 ∧ (∀ x ∈ l, 0 ≤ x ∧ x < 256) ∧
  (0 < l.length → ∃ (b off : Nat), ao = some ⟨b, off, none⟩ ∧ b < w.heap.size ∧ ∀ i, i < l.length → w.cell? ⟨b, off + i, none⟩ = some (.int .u8 (l.getD i 0)))

theorem Bytes.below {w w' : World} {ao : Option Addr} {l : List Int} (h : Bytes w ao l) (hb : Below w.heap.size w w') : Bytes w' ao l := by
  obtain ⟨h1, h2, h3⟩ := h
  refine ⟨h1, h2, fun hp => ?_⟩
  obtain ⟨b, off, e, hbw, hc⟩ := h3 hp
  exact ⟨b, off, e, Nat.lt_of_lt_of_le hbw hb.size, fun i hi => (hb.cell (p := ⟨b, off + i, none⟩) hbw).trans (hc i hi)⟩

theorem seg_getD (l : List Int) : seg (fun i => l.getD i 0) 0 l.length = l := by
  have key : ∀ (l : List Int) (z : Nat → Int) (k : Nat), (∀ i, i < l.length → z (k + i) = l.getD i 0) → seg z k l.length = l := by
    intro l
    induction l with
    | nil => intro z k _; rfl
    | cons a t ih =>
      intro z k h
      have h0 := h 0 (by simp)
      simp at h0
      rw [List.length_cons, seg, h0, ih z (k + 1) (fun i hi => by
        have := h (i + 1) (by simp; omega)
        rw [show k + 1 + i = k + (i + 1) by omega, this]
        simp)]
  exact key l _ 0 (fun i _ => by simp)

def byteOf (n : Int) : UInt8 := UInt8.ofNat n.toNat
theorem byteOf_inj {a b : Int} (ha : 0 ≤ a ∧ a < 256) (hb : 0 ≤ b ∧ b < 256) (h : byteOf a = byteOf b) : a = b := by
  have := congrArg UInt8.toNat h
  simp [byteOf] at this
  omega
theorem map_byteOf_inj : ∀ {l m : List Int}, (∀ x ∈ l, 0 ≤ x ∧ x < 256) → (∀ x ∈ m, 0 ≤ x ∧ x < 256) → l.map byteOf = m.map byteOf → l = m
  | [], [], _, _, _ => rfl
  | [], _ :: _, _, _, h => by simp at h
  | _ :: _, [], _, _, h => by simp at h
  | a :: l, b :: m, h1, h2, h => by
    simp only [List.map_cons, List.cons.injEq] at h
    rw [byteOf_inj (h1 a (by simp)) (h2 b (by simp)) h.1, map_byteOf_inj (fun x hx => h1 x (by simp [hx])) (fun x hx => h2 x (by simp [hx])) h.2]

theorem D1_ok : ∀ x ∈ D1, 0 ≤ x ∧ x < 256 := by decide
theorem D2_ok : ∀ x ∈ D2, 0 ≤ x ∧ x < 256 := by decide

theorem str_eq1 {l : List Int} (hl : ∀ x ∈ l, 0 ≤ x ∧ x < 256) : ((strOfNums l).toList == ((⟨#[6, 9]⟩ : ByteArray) ++ ⟨#[43, 6, 1, 4, 1, 156, 120, 3, 1]⟩).toList) = decide (l = D1) := by
  rw [ByteArray.toList_eq, ByteArray.toList_eq]
  have e1 : (strOfNums l).data.toList = l.map byteOf := rfl
  have e2 : ((⟨#[6, 9]⟩ : ByteArray) ++ ⟨#[43, 6, 1, 4, 1, 156, 120, 3, 1]⟩).data.toList = D1.map byteOf := by decide
  rw [e1, e2, Bool.eq_iff_iff]
  simp only [beq_iff_eq, decide_eq_true_eq]
  exact ⟨map_byteOf_inj hl D1_ok, fun e => by rw [e]⟩
theorem str_eq2 {l : List Int} (hl : ∀ x ∈ l, 0 ≤ x ∧ x < 256) : ((strOfNums l).toList == ((⟨#[6, 9]⟩ : ByteArray) ++ ⟨#[43, 6, 1, 4, 1, 156, 120, 3, 2]⟩).toList) = decide (l = D2) := by
  rw [ByteArray.toList_eq, ByteArray.toList_eq]
  have e1 : (strOfNums l).data.toList = l.map byteOf := rfl
  have e2 : ((⟨#[6, 9]⟩ : ByteArray) ++ ⟨#[43, 6, 1, 4, 1, 156, 120, 3, 2]⟩).data.toList = D2.map byteOf := by decide
  rw [e1, e2, Bool.eq_iff_iff]
  simp only [beq_iff_eq, decide_eq_true_eq]
  exact ⟨map_byteOf_inj hl D2_ok, fun e => by rw [e]⟩

/-- 'string(id)'. -/
theorem conv_bytes {w : World} {ao : Option Addr} {l : List Int} (h : Bytes w ao l) (cap : Nat) : (convert 24 9 (.slice ao l.length cap)).run Try.prog w = .ok (.string (strOfNums l)) w := by
  obtain ⟨_, _, h3⟩ := h
  by_cases hp : 0 < l.length
  · obtain ⟨b, off, rfl, _, hc⟩ := h3 hp
    exact run_convert_bytes_arg (P := Try.prog) w 24 5 Try.underlying24 Try.underlying5 b off l.length cap l rfl hc 9 Try.underlying9
  · obtain rfl : l = [] := List.eq_nil_of_length_eq_zero (by omega)
    cases ao with
    | none => exact run_convert_bytes_nil (P := Try.prog) w 24 5 Try.underlying24 Try.underlying5 0 cap 9 Try.underlying9
    | some a => exact run_convert_bytes_back (P := Try.prog) w 24 9 5 a cap [] Try.underlying24 Try.underlying5 Try.underlying9 (fun j hj => by simp at hj)

/-- 'profileClassID'. -/
def strip (l : List Int) : List Int := if l = D1 then C1 else if l = D2 then C2 else l

theorem bytes_of_cells {w w' : World} {g : Nat} {l : List Int} (_hw : w.heap.size ≤ g) (hl : l.length = 9) (hb : ∀ x ∈ l, 0 ≤ x ∧ x < 256) (hc : ∀ i, i < 9 → w'.cell? ⟨g, i, none⟩ = some (.int .u8 (l.getD i 0))) : Bytes w' (some ⟨g, 0, none⟩) l :=
  ⟨by omega, hb, fun _ => ⟨g, 0, rfl, World.block_lt_of_cell? _ _ (hc 0 (by omega)), fun i hi => by rw [Nat.zero_add]; exact hc i (by omega)⟩⟩

theorem prof_any (ao : Option Addr) (cap : Nat) (l : List Int) (w : World) (h : Bytes w ao l) :
    Calls Try.prog 8 #[.slice ao l.length cap] w fun e w' => ∃ ao' cap', e = .returned (.slice ao' (strip l).length cap') ∧ Bytes w' ao' (strip l) ∧ Below w.heap.size w w' := by
  have hs1 : ∀ o, (convert 24 9 (.slice ao l.length cap)).run Try.prog (w.alloc o) = .ok (.string (strOfNums l)) (w.alloc o) := fun o => conv_bytes (h.below ((Below.refl _ _).alloc (Nat.le_refl _) _)) cap
  have hs2 : ∀ o o2, (convert 24 9 (.slice ao l.length cap)).run Try.prog ((w.alloc o).alloc o2) = .ok (.string (strOfNums l)) ((w.alloc o).alloc o2) := fun o o2 => conv_bytes (h.below (((Below.refl _ _).alloc (Nat.le_refl _) _).alloc (by simp) _)) cap
  have q1 := str_eq1 h.2.1
  have q2 := str_eq2 h.2.1
  by_cases h1 : l = D1
  · have e : strip l = C1 := by unfold strip; rw [if_pos h1]
    rw [e]
    rw [decide_eq_true h1] at q1
    refine (prof_1 ao l.length cap (strOfNums l) w hs1 q1).mono ?_
    rintro e w' ⟨g, cp, he, hg, hc, hb⟩
    exact ⟨_, cp, he, bytes_of_cells hg rfl (by decide) hc, hb⟩
  · rw [decide_eq_false h1] at q1
    by_cases h2 : l = D2
    · have e : strip l = C2 := by unfold strip; rw [if_neg h1, if_pos h2]
      rw [e]
      rw [decide_eq_true h2] at q2
      refine (prof_2 ao l.length cap (strOfNums l) w hs1 hs2 q1 q2).mono ?_
      rintro e w' ⟨g, cp, he, hg, hc, hb⟩
      exact ⟨_, cp, he, bytes_of_cells hg rfl (by decide) hc, hb⟩
    · have e : strip l = l := by unfold strip; rw [if_neg h1, if_neg h2]
      rw [e]
      rw [decide_eq_false h2] at q2
      refine (prof_no ao l.length cap (strOfNums l) w hs1 hs2 q1 q2).mono ?_
      rintro e w' ⟨he, hb⟩
      exact ⟨ao, cap, he, h.below hb, hb⟩

set_option maxRecDepth 100000 in
theorem zprof_any (ao : Option Addr) (cap : Nat) (l : List Int) (n : Nat) (hn : l.length = n) (w : World) (h : Bytes w ao l) :
    Calls Try.prog 5 #[.slice ao n cap] w fun e w' => ∃ ao' cap', e = .returned (.slice ao' (strip l).length cap') ∧ Bytes w' ao' (strip l) ∧ Below w.heap.size w w' := by
  subst hn
  go_enter Try.func5, Try.ntmps5
  go_wp2_with fail
  refine (prof_any ao cap l _ h).mono ?_
  rintro e w' ⟨ao', cap', rfl, hb, hbel⟩
  go_wp2
  go_ret
  exact ⟨ao', cap', rfl, hb, hbel⟩

set_option maxRecDepth 100000 in
theorem content_zero (ao : Option Addr) (cap : Nat) (w : World) : Calls Try.prog 9 #[.slice ao 0 cap] w fun e w' => e = .returned (.bool false) ∧ Below w.heap.size w w' := by
  go_enter Try.func9, Try.ntmps9
  go_wp2
  refine wp_loop_rounds 1 ?_
  rw [rounds_succ]
  go_wp2
  go_ret
  exact ⟨rfl, (Below.refl _ _).alloc (Nat.le_refl _) _⟩

set_option maxRecDepth 100000 in
theorem same_zero (a0 a1 : Option Addr) (c0 c1 : Nat) (w : World) : Calls Try.prog 7 #[.slice a0 0 c0, .slice a1 0 c1] w fun e w' => e = .returned (.bool true) ∧ Below w.heap.size w w' := by
  go_enter Try.func7, Try.ntmps7
  go_wp2
  refine wp_loop_rounds 1 ?_
  rw [rounds_succ]
  go_wp2
  go_ret
  exact ⟨rfl, Below.refl _ _⟩

set_option maxRecDepth 100000 in
theorem same_pos (b0 o0 b1 o1 n c0 c1 : Nat) (l : List Int) (w : World) (hn : 0 < n) (hn' : n ≤ 1048576) (h0 : ∀ i, i < n → w.cell? ⟨b0, o0 + i, none⟩ = some (.int .u8 (l.getD i 0))) (h1 : ∀ i, i < n → w.cell? ⟨b1, o1 + i, none⟩ = some (.int .u8 (l.getD i 0))) :
    Calls Try.prog 7 #[.slice (some ⟨b0, o0, none⟩) n c0, .slice (some ⟨b1, o1, none⟩) n c1] w fun e w' => e = .returned (.bool true) ∧ Below w.heap.size w w' := by
  go_enter Try.func7, Try.ntmps7
  go_wp2
  go_loopw [5] (fun i wr => ∃ k : Nat, k ≤ n ∧ i = .int .i64 k ∧ Hid (wr.heap = w.heap) ∧ Below w.heap.size w wr) (fun i _ => n - (intOf i).toNat)
  case atStart => exact ⟨0, Nat.zero_le _, rfl, rfl, Below.refl _ _⟩
  case round =>
    obtain ⟨k, hk, rfl, hh, hbel⟩ := hrel
    by_cases hlt : k < n
    · obtain ⟨x, hx⟩ : ∃ x, x = l.getD k 0 := ⟨_, rfl⟩
      have g0 : wr.cell? ⟨b0, o0 + k, none⟩ = some (.int .u8 x) := by rw [hx, ← h0 k hlt]; exact World.cell?_of_block (by rw [hh.out])
      have g1 : wr.cell? ⟨b1, o1 + k, none⟩ = some (.int .u8 x) := by rw [hx, ← h1 k hlt]; exact World.cell?_of_block (by rw [hh.out])
      clear hx h0 h1
      go_wp2
      go_quiet (fail)
      go_wp2
      go_roundw
      case rel => exact ⟨k + 1, by omega, by go_num, hh, below_drewN hbel _⟩
      case measure => simp [intOf]; omega
    · go_wp2
      go_ret
      exact ⟨rfl, hbel⟩

/-- 'sameBytes' of two slices that hold one and the same. -/
theorem same_any (a0 a1 : Option Addr) (c0 c1 n m : Nat) (l : List Int) (hn : n = l.length) (hm : m = l.length) (w : World) (h0 : Bytes w a0 l) (h1 : Bytes w a1 l) :
    Calls Try.prog 7 #[.slice a0 n c0, .slice a1 m c1] w fun e w' => e = .returned (.bool true) ∧ Below w.heap.size w w' := by
  subst hn; subst hm
  by_cases hp : 0 < l.length
  · obtain ⟨b0, o0, rfl, _, g0⟩ := h0.2.2 hp
    obtain ⟨b1, o1, rfl, _, g1⟩ := h1.2.2 hp
    exact same_pos b0 o0 b1 o1 l.length c0 c1 l w hp h0.1 g0 g1
  · obtain rfl : l = [] := List.eq_nil_of_length_eq_zero (by omega)
    exact same_zero a0 a1 c0 c1 w

/-! ### isDERClassID -/
theorem getD_mem {l : List Int} {i : Nat} (h : i < l.length) : l.getD i 0 ∈ l := by
  rw [List.getD_eq_getElem?_getD, List.getElem?_eq_getElem h]
  exact List.getElem_mem h
def derB (l : List Int) : Bool := decide (l = D1) || decide (l = D2)

theorem derB_short {l : List Int} (h : l.length ≠ 11) : derB l = false := by
  have h1 : l ≠ D1 := fun e => h (by rw [e]; rfl)
  have h2 : l ≠ D2 := fun e => h (by rw [e]; rfl)
  simp [derB, h1, h2]
theorem derB_head {x y : Int} {l : List Int} (h : x ≠ 6) : derB (x :: y :: l) = false := by simp [derB, D1, D2, h]
theorem derB_len {x y : Int} {l : List Int} (h : y ≠ l.length) : derB (x :: y :: l) = false := by
  have h1 : x :: y :: l ≠ D1 := fun e => by
    simp [D1] at e
    apply h
    rw [e.2.1, e.2.2]; rfl
  have h2 : x :: y :: l ≠ D2 := fun e => by
    simp [D2] at e
    apply h
    rw [e.2.1, e.2.2]; rfl
  simp [derB, h1, h2]
theorem derB_content {y : Int} {l : List Int} (h : y = l.length) : derB (6 :: y :: l) = (decide (l = C1) || decide (l = C2)) := by
  have h1 : (6 :: y :: l = D1) ↔ l = C1 := ⟨fun e => by simp [D1] at e; exact e.2, fun e => by subst e; simp [D1, h]; rfl⟩
  have h2 : (6 :: y :: l = D2) ↔ l = C2 := ⟨fun e => by simp [D2] at e; exact e.2, fun e => by subst e; simp [D2, h]; rfl⟩
  simp [derB, h1, h2]

set_option maxRecDepth 100000 in
set_option maxHeartbeats 400000 in
theorem der_any (ao : Option Addr) (cap : Nat) (l : List Int) (n : Nat) (hn : l.length = n) (hc : n ≤ cap) (hcm : cap ≤ 9223372036854775807) (w : World) (h : Bytes w ao l) :
    Calls Try.prog 6 #[.slice ao n cap] w fun e w' => e = .returned (.bool (derB l)) ∧ Below w.heap.size w w' := by
  subst hn
  obtain ⟨h1, h2, h3⟩ := h
  match l, h1, h2, h3, hc with
  | [], h1, h2, h3, hc =>
    have e0 : derB [] = false := rfl
    have E0 : Hid (derB [] = false) := e0
    clear e0
    rw [List.length_nil]
    go_enter Try.func6, Try.ntmps6
    go_wp2
    go_ret
    exact ⟨by rw [E0.out]; rfl, Below.refl _ _⟩
  | [x], h1, h2, h3, hc =>
    have e0 : derB [x] = false := derB_short (by simp)
    have E0 : Hid (derB [x] = false) := e0
    clear e0
    rw [List.length_singleton]
    go_enter Try.func6, Try.ntmps6
    go_wp2
    go_ret
    exact ⟨by rw [E0.out]; rfl, Below.refl _ _⟩
  | x :: y :: m, h1, h2, h3, hc =>
    obtain ⟨b, off, rfl, hbw, hcell⟩ := h3 (by simp)
    have hx := h2 x (by simp)
    have hy := h2 y (by simp)
    have c0 : w.cell? ⟨b, off, none⟩ = some (.int .u8 x) := by simpa using hcell 0 (by simp)
    have c1 : w.cell? ⟨b, off + 1, none⟩ = some (.int .u8 y) := by simpa using hcell 1 (by simp)
    have cm : ∀ i, i < m.length → w.cell? ⟨b, off + 2 + i, none⟩ = some (.int .u8 (m.getD i 0)) := fun i hi => by
      have := hcell (i + 2) (by simp; omega)
      rw [show off + 2 + i = off + (i + 2) by omega, this]
      simp
    have hmb : ∀ z ∈ m, 0 ≤ z ∧ z < 256 := fun z hz => h2 z (by simp [hz])
    have hml : m.length + 2 ≤ 1048576 := by simpa using h1
    have hmc : m.length + 2 ≤ cap := by simpa using hc
    rw [show (x :: y :: m).length = m.length + 2 by simp]
    clear h1 h2 h3 hc hcell
    obtain ⟨R, hR⟩ : ∃ R, R = derB (x :: y :: m) := ⟨_, rfl⟩
    rw [← hR]
    by_cases h6 : x = 6
    · have hq6 : (x != 6) = false := by simp [h6]
      by_cases h128 : 128 ≤ y
      · have e0 : R = false := by
          rw [hR]
          by_cases hlen : y = (m.length : Int)
          · refine derB_short (by simp; omega)
          · exact derB_len hlen
        have E0 : Hid (R = false) := e0
        clear e0 hR h6
        have hd : decide ((128 : Int) ≤ y) = true := decide_eq_true h128
        go_enter Try.func6, Try.ntmps6
        go_wp2
        go_ret
        exact ⟨by rw [E0.out]; rfl, Below.refl _ _⟩
      · have hd : decide ((128 : Int) ≤ y) = false := decide_eq_false h128
        by_cases hlen : y = (m.length : Int)
        · have hE : (y != ((m.length : Nat) : Int)) = false := by simp [hlen]
          have e0 : R = run m.length [] m := by rw [hR, h6, derB_content hlen, run_is hmb]
          have E0 : Hid (R = run m.length [] m) := e0
          clear e0 hR h6
          by_cases hm0 : m.length = 0
          · have e1 : R = false := by
              rw [E0.out, List.eq_nil_of_length_eq_zero hm0]
              rfl
            have E1 : Hid (R = false) := e1
            clear e1 hlen cm hmb E0
            rw [hm0] at hE hml hmc ⊢
            go_enter Try.func6, Try.ntmps6
            go_wp2_with fail
            all_goals
              refine (content_zero _ _ _).mono ?_
              rintro e w' ⟨rfl, hb⟩
              go_wp2
              go_ret
              exact ⟨by rw [E1.out]; rfl, hb⟩
          · have hcap : ¬ cap = 2 := by omega
            have HL : Hid (y = (m.length : Int)) := hlen
            clear hlen
            go_enter Try.func6, Try.ntmps6
            go_wp2_with fail
            refine (content_any b (off + 2) m.length (cap - 2) (fun i => m.getD i 0) w (by omega) (by omega) hbw cm (fun i hi => hmb _ (getD_mem hi))).mono ?_
            rintro e w' ⟨rfl, hb⟩
            rw [seg_getD, ← E0.out]
            go_wp2
            go_ret
            exact ⟨rfl, hb⟩
        · have e0 : R = false := by rw [hR]; exact derB_len hlen
          have E0 : Hid (R = false) := e0
          clear e0 hR h6
          have hE : (y != (m.length : Int)) = true := by simp [hlen]
          clear hlen
          go_enter Try.func6, Try.ntmps6
          go_wp2
          go_ret
          exact ⟨by rw [E0.out]; rfl, Below.refl _ _⟩
    · have hq6 : (x != 6) = true := by simp [h6]
      have e0 : R = false := by rw [hR]; exact derB_head h6
      have E0 : Hid (R = false) := e0
      clear e0 hR h6
      go_enter Try.func6, Try.ntmps6
      go_wp2
      go_ret
      exact ⟨by rw [E0.out]; rfl, Below.refl _ _⟩

end Go.Proofs.Qxb6617602a

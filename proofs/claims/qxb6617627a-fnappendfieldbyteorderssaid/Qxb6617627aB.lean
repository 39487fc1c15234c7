/-
  THE CONTRACT OF appendField.
-/
import Derived.Test.Qxb6617627aA
import Derived.OwnWalk
namespace Go.Proofs.Qxb6617627a
open Go.RowKit

/-- Byte i of v, counted from the most significant of n. -/
def dg (v : Int) (n i : Nat) : Int := v / 2 ^ (8 * (n - 1 - i)) % 256

theorem sg_lt {n i : Nat} (le : Bool) (h : i < n) : sg n le i < n := by unfold sg; split <;> omega
theorem sg_sg {n i : Nat} (le : Bool) (h : i < n) : sg n le (sg n le i) = i := by unfold sg; split <;> omega
theorem sg_inj {n i j : Nat} (le : Bool) (hi : i < n) (hj : j < n) (h : sg n le i = sg n le j) : i = j := by
  have := congrArg (sg n le) h
  rwa [sg_sg le hi, sg_sg le hj] at this

theorem owns_below {w w' : World} {B : Nat} {v : Value} {n : Nat} {xs : List Value} (h : w.ownsRow B 5 1 v n xs) (hb : Below w.heap.size w w') : w'.ownsRow B 5 1 v n xs := by
  obtain ⟨h1, h2 | ⟨g, cap, cur, e, hB, hg, h3⟩⟩ := h
  · exact ⟨h1, .inl h2⟩
  · exact ⟨h1, .inr ⟨g, cap, cur, e, hB, (hb.block g (lt_of_block hg)).trans hg, h3⟩⟩

theorem ac {w : World} {o : Obj} {a : Addr} {v : Value} (h : w.cell? a = some v) : (w.alloc o).cell? a = some v :=
  (World.cell?_of_block (Below.heap_alloc w o a.block (World.block_lt_of_cell? _ _ h))).trans h

theorem cset {W : World} {b g i j : Nat} {u v : Value} (hb : b ≠ g) (h : W.cell? ⟨b, i, none⟩ = some v) : (W.setCell ⟨g, j, none⟩ u).cell? ⟨b, i, none⟩ = some v := by
  rw [World.cell?_setCell_other _ _ _ _ (fun e => hb (by injection e with e1 _ _; exact e1.symm))]; exact h

/-- The codec's box. -/
def Box (w : World) (h n : Nat) (le : Bool) (o d : Int) : Prop :=
  w.cell? ⟨h, 0, none⟩ = some (.int .i64 n) ∧ w.cell? ⟨h, 1, none⟩ = some (.bool le) ∧ w.cell? ⟨h, 2, none⟩ = some (.int .i64 o) ∧ w.cell? ⟨h, 3, none⟩ = some (.int .i64 d)

theorem addp (b o j : Nat) : (⟨b, o, none⟩ : Addr).add j = ⟨b, o + j, none⟩ := by unfold Addr.add; split <;> simp_all

theorem row0 (w : World) (O1 : Obj) : ((w.alloc O1).alloc (.cells #[.int .u8 0, .int .u8 0, .int .u8 0, .int .u8 0, .int .u8 0, .int .u8 0, .int .u8 0, .int .u8 0] 35)).rowIs (w.heap.size + 1) 35 8 (fun _ => .int .u8 0) := by
  have h := World.rowIs_alloc (w.alloc O1) #[.int .u8 0, .int .u8 0, .int .u8 0, .int .u8 0, .int .u8 0, .int .u8 0, .int .u8 0, .int .u8 0] 35 (fun _ => .int .u8 0) (fun i hi => by
    match i, hi with
    | 0, _ | 1, _ | 2, _ | 3, _ | 4, _ | 5, _ | 6, _ | 7, _ => rfl)
  simpa using h

theorem box1 (w : World) (n : Nat) (le : Bool) (o d : Int) : Box (w.alloc (.cells #[.int .i64 n, .bool le, .int .i64 o, .int .i64 d] 32)) w.heap.size n le o d := by
  have h := heap_alloc_new w (.cells #[.int .i64 n, .bool le, .int .i64 o, .int .i64 d] 32)
  refine ⟨?_, ?_, ?_, ?_⟩ <;> (unfold World.cell?; rw [h]; rfl)
theorem box0 (w : World) (n : Nat) (le : Bool) (o d : Int) (O2 : Obj) : Box ((w.alloc (.cells #[.int .i64 n, .bool le, .int .i64 o, .int .i64 d] 32)).alloc O2) w.heap.size n le o d :=
  have h := box1 w n le o d
  ⟨ac h.1, ac h.2.1, ac h.2.2.1, ac h.2.2.2⟩

set_option maxRecDepth 100000 in
set_option maxHeartbeats 1000000 in
theorem append_any (n : Nat) (le : Bool) (o d : Int) (B : Nat) (v : Value) (n0 : Nat) (xs : List Value) (x : Int) (w : World) (h1 : 1 ≤ n) (h8 : n ≤ 8) (hn0 : n0 ≤ 1048576) (hB : B ≤ w.heap.size) (hown : w.ownsRow B 5 1 v n0 xs) :
    Calls Try.prog 11 #[.agg #[.int .i64 n, .bool le, .int .i64 o, .int .i64 d], v, .int .u64 x] w fun e w' =>
      ∃ g cap, e = .returned (.slice (some ⟨g, 0, none⟩) (n0 + n) cap) ∧ w'.ownsRow B 5 1 (.slice (some ⟨g, 0, none⟩) (n0 + n) cap) (n0 + n) (xs ++ cells n (fun j => dg x n (sg n le j))) ∧ Below B w w' := by
  go_enter Try.func11, Try.ntmps11
  go_wp2
  go_loopg [11] n (fun gk u wr => ∃ k f, gk + k = n ∧ u = .int .i64 k ∧ wr.rowIs (w.heap.size + 1) 35 8 f ∧ (∀ i, i < k → f (sg n le i) = .int .u8 (dg x n i)) ∧ Box wr w.heap.size n le o d ∧ Below w.heap.size w wr)
  case atStart =>
    exact ⟨0, fun _ => .int .u8 0, rfl, rfl, row0 _ _, fun i hi => by omega, box0 _ _ _ _ _ _, ((Below.refl _ _).alloc (Nat.le_refl _) _).alloc (by simp) _⟩
  case round =>
    obtain ⟨k, f, hgk, rfl, hR, hf, hbox, hbel⟩ := hrel
    by_cases hk : k < n
    · obtain ⟨b0, b1, b2, b3⟩ := hbox
      obtain ⟨q, hq⟩ : ∃ q, q = sg n le k := ⟨_, rfl⟩
      have hq8 : q < 8 := by have := sg_lt le hk; omega
      have c1 : ∀ ob, (wr.alloc ob).cell? ⟨w.heap.size + 1, q, none⟩ = some (f q) := fun ob => (hR.alloc ob).cell hq8
      have c2 : ∀ ob, (wr.alloc ob).frozen? ⟨w.heap.size + 1, q, none⟩ = false := fun ob => (hR.alloc ob).frozen q
      have n0' : (q : Int) < 8 := by omega
      have n1 : (k : Int) < (n : Int) := by omega
      have n2 : IntKind.i64.wrap ((k : Int) + 1) = (k : Int) + 1 := by rw [IntKind.wrap_i64]; omega
      have n3 : IntKind.i64.wrap ((n : Int) - 1) = (n : Int) - 1 := by rw [IntKind.wrap_i64]; omega
      have n4 : IntKind.i64.wrap ((n : Int) - 1 - (k : Int)) = ((n - 1 - k : Nat) : Int) := by rw [IntKind.wrap_i64]; omega
      obtain ⟨m, hm⟩ : ∃ m, m = n - 1 - k := ⟨_, rfl⟩
      rw [← hm] at n4
      have hm7 : m ≤ 7 := by omega
      have n5 : IntKind.i64.wrap (8 * (m : Int)) = 8 * (m : Int) := by rw [IntKind.wrap_i64]; omega
      have n6 : Op.shift .shr .u64 x .i64 (8 * (m : Int)) = pure (.int .u64 (x / 2 ^ (8 * m))) := by
        have hh := shift_shr .u64 .i64 x (8 * (m : Int)) (by omega) (by show 8 * (m : Int) ≤ 64; omega)
        rw [show (8 * (m : Int)).toNat = 8 * m by omega] at hh
        exact hh
      have n8 : (8 * (m : Int)).toNat = 8 * m := by omega
      have n7 : IntKind.u8.wrap (x / 2 ^ (8 * m)) = dg x n k := by rw [IntKind.wrap_u8, hm]; rfl
      have HQ := (show Hid (q = sg n le k) from hq)
      have HR := (show Hid (wr.rowIs (w.heap.size + 1) 35 8 f) from hR)
      clear hR hq hm
      have hne : w.heap.size ≠ w.heap.size + 1 := by omega
      go_wp2
      go_region_held3 (fun w' => w'.cell? ⟨w.heap.size, 0, none⟩ = some (.int .i64 n) ∧ w'.cell? ⟨w.heap.size, 1, none⟩ = some (.bool le) ∧ w'.cell? ⟨w.heap.size, 2, none⟩ = some (.int .i64 o) ∧ w'.cell? ⟨w.heap.size, 3, none⟩ = some (.int .i64 d))
        (((try simp only [World.cell?_drew]); first | (with_reducible exact ⟨b0, b1, b2, b3⟩) | (with_reducible exact ⟨ac b0, ac b1, ac b2, ac b3⟩) | (with_reducible exact ⟨ac (cset hne b0), ac (cset hne b1), ac (cset hne b2), ac (cset hne b3)⟩) | (with_reducible exact ⟨cset hne (ac b0), cset hne (ac b1), cset hne (ac b2), cset hne (ac b3)⟩)))
        (first | (go_at_call 13; refine (sig_any n le o d k hk h8 _).mono ?_; rintro e w' ⟨rfl, ob, rfl⟩; rw [← HQ.out]))
      go_wp2
      go_roundg (gk - 1)
      case measure => omega
      case rel =>
        go_light
        refine ⟨k + 1, _, by omega, by simp, ((HR.out.alloc ob).set q _).drew, fun i hi => ?_, ⟨cset hne (ac b0), cset hne (ac b1), cset hne (ac b2), cset hne (ac b3)⟩, Below.drew ((hbel.alloc hbel.size ob).setCell (p := ⟨w.heap.size + 1, q, none⟩) (Nat.le_succ _) _)⟩
        by_cases e : i = k
        · rw [e, if_pos HQ.out.symm]
        · rw [if_neg (fun e2 => e (sg_inj le (by omega) hk (e2.trans HQ.out))), hf i (by omega)]
    · have hkn : k = n := by omega
      subst hkn
      obtain ⟨b0, b1, b2, b3⟩ := hbox
      have n1 : ¬ ((k : Int) < (k : Int)) := by omega
      have hown1 := owns_below hown hbel
      have n2 : (k : Int) ≤ 8 := by omega
      obtain ⟨i0, hi, hz0, hz1, hz2⟩ := info_parts Try.info5
      have s1 : (cells k (fun j => dg x k (sg k le j))).length = k * 1 := by rw [cells_length, Nat.mul_one]
      have s2 : Hid (∀ j u, (cells k (fun j => dg x k (sg k le j)))[j]? = some u → wr.cell? ((⟨w.heap.size + 1, 0, none⟩ : Addr).add j) = some u) := fun j u hj => by
        have hjk : j < k := by have := (List.getElem?_eq_some_iff.1 hj).1; rwa [cells_length] at this
        rw [cells_get hjk] at hj
        have h3 := hR.cell (i := j) (by omega)
        have h4 := hf (sg k le j) (sg_lt le hjk)
        rw [sg_sg le hjk] at h4
        rw [h4] at h3
        rw [addp, Nat.zero_add, h3, ← hj]
      have s3 : Hid (∀ u ∈ cells k (fun j => dg x k (sg k le j)), u.oneCell' = true) := fun u hu => by
        obtain ⟨j, _, rfl⟩ := List.mem_map.1 hu
        rfl
      have s4 : n0 + k ≤ maxLen := by unfold maxLen; omega
      have s5 : (n0 + k) * 1 ≤ 140737488355328 := by omega
      have s6 : B ≤ wr.heap.size := Nat.le_trans hB hbel.size
      go_wp2_with (first | (at_builtin; refine wpList_append_own _ rfl (.tmp 28) (.tmp 31) 22 rfl B 5 i0 (.int .u8 0) 1 1 Try.underlying22 hi hz0 hz1 hz2 rfl (by decide) v n0 xs rfl hown1 ⟨w.heap.size + 1, 0, none⟩ k 8 (cells k (fun j => dg x k (sg k le j))) rfl s1 s2.out s3.out s4 s5 s6 ?_; intro v2 w2 hown2 hgrow2 hnil2))
      obtain ⟨g, cap, rfl⟩ : ∃ g cap, v2 = .slice (some ⟨g, 0, none⟩) (n0 + k) cap := by
        obtain ⟨_, ⟨_, h⟩ | ⟨g, cap, _, e, _⟩⟩ := hown2
        · omega
        · exact ⟨g, cap, e⟩
      go_ret
      refine ⟨g, cap, rfl, hown2, (hbel.mono hB).grown hgrow2 s6 fun j hj => (hown1.lt j hj).1⟩
end Go.Proofs.Qxb6617627a

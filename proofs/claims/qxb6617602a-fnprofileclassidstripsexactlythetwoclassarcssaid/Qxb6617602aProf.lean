/-
  THE WALK OF 'profileClassID'.
-/
import Derived.Test.Qxb6617602aArcs
import Derived.Laws.BytesArg
import Derived.Laws.IdiomStrings
namespace Go.Proofs.Qxb6617602a
open Go.RowKit

def D1 : List Int := 6 :: 9 :: C1
def D2 : List Int := 6 :: 9 :: C2
def B1 : ByteArray := ⟨#[43, 6, 1, 4, 1, 156, 120, 3, 1]⟩
def B2 : ByteArray := ⟨#[43, 6, 1, 4, 1, 156, 120, 3, 2]⟩

/-- 'string([]byte{6, 9})' just behind its making. -/
theorem conv69 (W : World) (g : Nat) (hg : g = W.heap.size) : (convert 22 9 (.slice (some ⟨g, 0, none⟩) 2 2)).run Try.prog (W.alloc (.cells #[.int .u8 6, .int .u8 9] 5)) = .ok (.string ⟨#[6, 9]⟩) (W.alloc (.cells #[.int .u8 6, .int .u8 9] 5)) := by
  subst hg
  have h := run_convert_bytes_arg (P := Try.prog) (W.alloc (.cells #[.int .u8 6, .int .u8 9] 5)) 22 5 Try.underlying22 Try.underlying5 W.heap.size 0 2 2 [6, 9] rfl (fun i hi => by
    match i, hi with
    | 0, _ => simp [World.cell?_alloc_new]
    | 1, _ => simp [World.cell?_alloc_new]) 9 Try.underlying9
  exact h

set_option maxRecDepth 100000 in
set_option maxHeartbeats 400000 in
theorem prof_no (ao : Option Addr) (len cap : Nat) (s : ByteArray) (w : World)
    (hs1 : ∀ o, (convert 24 9 (.slice ao len cap)).run Try.prog (w.alloc o) = .ok (.string s) (w.alloc o))
    (hs2 : ∀ o o2, (convert 24 9 (.slice ao len cap)).run Try.prog ((w.alloc o).alloc o2) = .ok (.string s) ((w.alloc o).alloc o2))
    (hq1 : (s.toList == ((⟨#[6, 9]⟩ : ByteArray) ++ ⟨#[43, 6, 1, 4, 1, 156, 120, 3, 1]⟩).toList) = false) (hq2 : (s.toList == ((⟨#[6, 9]⟩ : ByteArray) ++ ⟨#[43, 6, 1, 4, 1, 156, 120, 3, 2]⟩).toList) = false) :
    Calls Try.prog 8 #[.slice ao len cap] w fun e w' => e = .returned (.slice ao len cap) ∧ Below w.heap.size w w' := by
  have hc1 := fun o => conv69 (w.alloc o) (w.heap.size + 1) (by simp)
  have hc2 := fun o o2 => conv69 ((w.alloc o).alloc o2) (w.heap.size + 1 + 1) (by simp)
  go_enter Try.func8, Try.ntmps8
  go_wp2
  refine wp_loop_rounds 3 ?_
  rw [rounds_succ]
  go_wp2
  rw [rounds_succ]
  go_wp2
  rw [rounds_succ]
  go_wp2
  go_ret
  exact ⟨rfl, (((Below.refl _ _).alloc (Nat.le_refl _) _).alloc (by simp) _).alloc (by simp; omega) _⟩

theorem row1 (n i : Nat) (hi : i < 9) : (bytesRow ⟨#[43, 6, 1, 4, 1, 156, 120, 3, 1]⟩ n)[i]? = some (.int .u8 (C1.getD i 0)) := by
  have : i = 0 ∨ i = 1 ∨ i = 2 ∨ i = 3 ∨ i = 4 ∨ i = 5 ∨ i = 6 ∨ i = 7 ∨ i = 8 := by omega
  unfold bytesRow
  rw [Array.getElem?_append_left (by simpa using hi)]
  rcases this with rfl | rfl | rfl | rfl | rfl | rfl | rfl | rfl | rfl <;> simp [C1]
theorem row2 (n i : Nat) (hi : i < 9) : (bytesRow ⟨#[43, 6, 1, 4, 1, 156, 120, 3, 2]⟩ n)[i]? = some (.int .u8 (C2.getD i 0)) := by
  have : i = 0 ∨ i = 1 ∨ i = 2 ∨ i = 3 ∨ i = 4 ∨ i = 5 ∨ i = 6 ∨ i = 7 ∨ i = 8 := by omega
  unfold bytesRow
  rw [Array.getElem?_append_left (by simpa using hi)]
  rcases this with rfl | rfl | rfl | rfl | rfl | rfl | rfl | rfl | rfl <;> simp [C2]
theorem new_cell (W : World) (C : Array Value) (fr : Nat × Nat) (g : Nat) (hg : g = W.heap.size) (i : Nat) : (W.alloc (.cells C 5 fr)).cell? ⟨g, i, none⟩ = C[i]? := by
  subst hg
  exact World.cell?_alloc_mark W C 5 fr i

set_option maxRecDepth 100000 in
set_option maxHeartbeats 400000 in
theorem prof_1 (ao : Option Addr) (len cap : Nat) (s : ByteArray) (w : World)
    (hs1 : ∀ o, (convert 24 9 (.slice ao len cap)).run Try.prog (w.alloc o) = .ok (.string s) (w.alloc o))
    (hq1 : (s.toList == ((⟨#[6, 9]⟩ : ByteArray) ++ ⟨#[43, 6, 1, 4, 1, 156, 120, 3, 1]⟩).toList) = true) :
    Calls Try.prog 8 #[.slice ao len cap] w fun e w' => ∃ g cp, e = .returned (.slice (some ⟨g, 0, none⟩) 9 cp) ∧ w.heap.size ≤ g ∧ (∀ i, i < 9 → w'.cell? ⟨g, i, none⟩ = some (.int .u8 (C1.getD i 0))) ∧ Below w.heap.size w w' := by
  have hc1 := fun o => conv69 (w.alloc o) (w.heap.size + 1) (by simp)
  have hcv := fun W : World => run_bytes_of_string (P := Try.prog) W 9 24 5 ⟨#[43, 6, 1, 4, 1, 156, 120, 3, 1]⟩ Try.underlying9 Try.underlying24 Try.underlying5
  go_enter Try.func8, Try.ntmps8
  go_wp2
  refine wp_loop_rounds 3 ?_
  rw [rounds_succ]
  go_wp2
  go_ret
  refine ⟨w.heap.size + 1 + 1, _, rfl, by omega, fun i hi => (new_cell _ _ _ _ (by simp) i).trans (row1 _ i hi), ?_⟩
  exact ((((Below.refl _ _).alloc (Nat.le_refl _) _).alloc (by simp) _).alloc (by simp; omega) _).drew

set_option maxRecDepth 100000 in
set_option maxHeartbeats 400000 in
theorem prof_2 (ao : Option Addr) (len cap : Nat) (s : ByteArray) (w : World)
    (hs1 : ∀ o, (convert 24 9 (.slice ao len cap)).run Try.prog (w.alloc o) = .ok (.string s) (w.alloc o))
    (hs2 : ∀ o o2, (convert 24 9 (.slice ao len cap)).run Try.prog ((w.alloc o).alloc o2) = .ok (.string s) ((w.alloc o).alloc o2))
    (hq1 : (s.toList == ((⟨#[6, 9]⟩ : ByteArray) ++ ⟨#[43, 6, 1, 4, 1, 156, 120, 3, 1]⟩).toList) = false) (hq2 : (s.toList == ((⟨#[6, 9]⟩ : ByteArray) ++ ⟨#[43, 6, 1, 4, 1, 156, 120, 3, 2]⟩).toList) = true) :
    Calls Try.prog 8 #[.slice ao len cap] w fun e w' => ∃ g cp, e = .returned (.slice (some ⟨g, 0, none⟩) 9 cp) ∧ w.heap.size ≤ g ∧ (∀ i, i < 9 → w'.cell? ⟨g, i, none⟩ = some (.int .u8 (C2.getD i 0))) ∧ Below w.heap.size w w' := by
  have hc1 := fun o => conv69 (w.alloc o) (w.heap.size + 1) (by simp)
  have hc2 := fun o o2 => conv69 ((w.alloc o).alloc o2) (w.heap.size + 1 + 1) (by simp)
  have hcv := fun W : World => run_bytes_of_string (P := Try.prog) W 9 24 5 ⟨#[43, 6, 1, 4, 1, 156, 120, 3, 2]⟩ Try.underlying9 Try.underlying24 Try.underlying5
  go_enter Try.func8, Try.ntmps8
  go_wp2
  refine wp_loop_rounds 3 ?_
  rw [rounds_succ]
  go_wp2
  rw [rounds_succ]
  go_wp2
  go_ret
  refine ⟨w.heap.size + 1 + 1 + 1, _, rfl, by omega, fun i hi => (new_cell _ _ _ _ (by simp) i).trans (row2 _ i hi), ?_⟩
  exact (((((Below.refl _ _).alloc (Nat.le_refl _) _).alloc (by simp) _).alloc (by simp; omega) _).alloc (by simp; omega) _).drew
end Go.Proofs.Qxb6617602a

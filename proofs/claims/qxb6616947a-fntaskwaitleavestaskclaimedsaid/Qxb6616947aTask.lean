import Derived.Test.Qxb6616947aRows
import Derived.WalkKit
import Derived.ProofKit
import Derived.Below
import Derived.BigQuiet
import Derived.Deep.QuietTactic
import Derived.Deep.RegionWith
import Derived.Laws.LoneSync
import Derived.Conc.LoneCalls
namespace Go.Proofs.Qxb6616947a
open Go.RowKit Go.Conc

/-- The task at block 'p', its channel at block 'c': the word 'claimed' holds 'k'; the channel is closed or not. -/
structure Task (w : World) (p c : Nat) (k : Int) (cl : Bool) : Prop where
  cells : w.heap[p]? = some (.cells #[.func (.func 18) #[] #[], .int .u32 k, .chan (some c)] 45 (0, 0))
  chan : w.heap[c]? = some (.chan 0 #[] cl 0 0 false)

theorem elem39 : ∃ i, Try.prog.info? 39 = some i ∧ i.bytes = 0 := by
  have h : (Try.prog.info? 39).map (·.bytes) = some 0 := by kernel_rfl
  obtain ⟨i, hi, hb⟩ := Option.map_eq_some_iff.1 h
  exact ⟨i, hi, hb⟩
theorem mk0 (w : World) : (Instr.makeChan 38 (.int .i64 0)).run Try.prog w = .ok (.chan (some w.heap.size)) (w.alloc (.chan 0 #[] false 0 0 false)) := by
  obtain ⟨i, hi, hb⟩ := elem39
  simpa using run_makeChan (P := Try.prog) (w := w) Try.underlying38 hi .i64 0 (by omega) (by rw [hb]; omega)

theorem b32_any (x : Bool) (w : World) : Calls Try.prog 26 #[.bool x] w fun e w' => e = .returned (.int .u32 (if x then 1 else 0)) ∧ w' = w := by
  cases x
  · go_enter Try.func26, Try.ntmps26
    go_wp2
    go_ret
    exact ⟨rfl, rfl⟩
  · go_enter Try.func26, Try.ntmps26
    go_wp2
    go_ret
    exact ⟨rfl, rfl⟩

set_option maxHeartbeats 400000 in
theorem new_any (w : World) : Calls Try.prog 11 #[] w fun e w' => ∃ p c, e = .returned (.pointer (some ⟨p, 0, none⟩)) ∧ w.heap.size ≤ p ∧ w.heap.size ≤ c ∧ p ≠ c ∧ Task w' p c 0 false ∧ Below w.heap.size w w' := by
  have hmc := mk0
  go_enter Try.func11, Try.ntmps11
  go_wp2
  go_ret
  refine ⟨w.heap.size + 1, w.heap.size, rfl, by omega, Nat.le_refl _, by omega, ⟨?_, ?_⟩, ((Below.refl _ _).alloc (Nat.le_refl _) _).alloc (by simp) _⟩
  · exact heap_alloc2_new w _ _
  · exact heap_alloc2_old w _ _

set_option maxHeartbeats 400000 in
theorem cas_hit (p : Nat) (w : World) (c1 : w.cell? ⟨p, 1, none⟩ = some (.int .u32 0)) (f1 : w.frozen? ⟨p, 1, none⟩ = false) :
    Calls Try.prog 23 #[.pointer (some ⟨p, 1, none⟩), .bool false, .bool true] w fun e w' => e = .returned (.bool true) ∧ ∃ q, w' = (w.setCell ⟨p, 1, none⟩ (.int .u32 1)).drewN q := by
  have hcas := fun (W : World) (hc : W.cell? ⟨p, 1, none⟩ = some (.int .u32 0)) (hf : W.frozen? ⟨p, 1, none⟩ = false) => run_call_cas_hit (P := Try.prog) (w := W) Try.func25 (by kernel_rfl) (by kernel_rfl) (by kernel_rfl) .u32 (by kernel_rfl) (y := 1) hc hf
  go_enter Try.func23, Try.ntmps23
  go_wp2
  go_region_with (go_at_call 26; refine (b32_any _ _).mono ?_; rintro e w2 ⟨rfl, rfl⟩)
  all_goals
    go_wp2
    go_ret
    exact ⟨rfl, 1, rfl⟩

set_option maxHeartbeats 400000 in
theorem cas_miss (p : Nat) (w : World) (c1 : w.cell? ⟨p, 1, none⟩ = some (.int .u32 1)) (f1 : w.frozen? ⟨p, 1, none⟩ = false) :
    Calls Try.prog 23 #[.pointer (some ⟨p, 1, none⟩), .bool false, .bool true] w fun e w' => e = .returned (.bool false) ∧ ∃ q, w' = w.drewN q := by
  have hcas := fun (W : World) (hc : W.cell? ⟨p, 1, none⟩ = some (.int .u32 1)) (hf : W.frozen? ⟨p, 1, none⟩ = false) => run_call_cas_miss (P := Try.prog) (w := W) Try.func25 (by kernel_rfl) (by kernel_rfl) (by kernel_rfl) .u32 (by kernel_rfl) (o := 0) (y := 1) hc hf (by omega)
  go_enter Try.func23, Try.ntmps23
  go_wp2
  go_region_with (go_at_call 26; refine (b32_any _ _).mono ?_; rintro e w2 ⟨rfl, rfl⟩)
  all_goals
    go_wp2
    go_ret
    exact ⟨rfl, 1, rfl⟩

/-! ### what the steps leave of the task -/
theorem Task.c1 {w : World} {p c : Nat} {k : Int} {cl : Bool} (h : Task w p c k cl) : w.cell? ⟨p, 1, none⟩ = some (.int .u32 k) := by
  rw [cell_of_row w p 1 _ 45 (0, 0) h.cells]; rfl
theorem Task.c0 {w : World} {p c : Nat} {k : Int} {cl : Bool} (h : Task w p c k cl) : w.cell? ⟨p, 0, none⟩ = some (.func (.func 18) #[] #[]) := by
  rw [cell_of_row w p 0 _ 45 (0, 0) h.cells]; rfl
theorem Task.c2 {w : World} {p c : Nat} {k : Int} {cl : Bool} (h : Task w p c k cl) : w.cell? ⟨p, 2, none⟩ = some (.chan (some c)) := by
  rw [cell_of_row w p 2 _ 45 (0, 0) h.cells]; rfl
theorem Task.free {w : World} {p c : Nat} {k : Int} {cl : Bool} (h : Task w p c k cl) (j : Nat) : w.frozen? ⟨p, j, none⟩ = false := frozen_of_row w p j _ 45 h.cells
theorem Task.ne {w : World} {p c : Nat} {k : Int} {cl : Bool} (h : Task w p c k cl) : c ≠ p := by
  rintro rfl
  have := h.cells.symm.trans h.chan
  simp at this
theorem Task.claim {w : World} {p c : Nat} {k : Int} {cl : Bool} (h : Task w p c k cl) (q : Nat) : Task ((w.setCell ⟨p, 1, none⟩ (.int .u32 1)).drewN q) p c 1 cl :=
  ⟨by show (w.setCell ⟨p, 1, none⟩ (.int .u32 1)).heap[p]? = _; rw [heap_setCell_same w p 1 _ 45 _ h.cells]; rfl,
   by show (w.setCell ⟨p, 1, none⟩ (.int .u32 1)).heap[c]? = _; rw [heap_setCell_other w ⟨p, 1, none⟩ c _ h.ne]; exact h.chan⟩
theorem Task.shut {w : World} {p c : Nat} {k : Int} {cl : Bool} (h : Task w p c k cl) : Task (w.setChan c 0 #[] true 0 0 false) p c k true :=
  ⟨by simp only [World.setChan]; rw [Array.getElem?_setIfInBounds_ne h.ne]; exact h.cells,
   heap_setChan w c 0 #[] true 0 0 false (Array.getElem?_eq_some_iff.1 h.chan).1⟩

/-! ### claim -/
theorem claim_hit (p c : Nat) (cl : Bool) (w : World) (B : Nat) (hB : B ≤ p) (h : Task w p c 0 cl) :
    Calls Try.prog 19 #[.pointer (some ⟨p, 0, none⟩)] w fun e w' => e = .returned (.bool true) ∧ Task w' p c 1 cl ∧ Below B w w' := by
  have c1 := h.c1
  have c0 := h.c0
  go_enter Try.func19, Try.ntmps19
  go_wp2_with fail
  refine (cas_hit p w c1 (h.free 1)).mono ?_
  rintro e w1 ⟨rfl, q, rfl⟩
  go_wp2
  go_ret
  exact ⟨rfl, h.claim q, ((Below.refl _ _).setCell hB _).trans ⟨rfl, rfl, rfl, Nat.le_refl _, fun _ _ => rfl⟩⟩
theorem claim_miss (p c : Nat) (cl : Bool) (w : World) (B : Nat) (h : Task w p c 1 cl) :
    Calls Try.prog 19 #[.pointer (some ⟨p, 0, none⟩)] w fun e w' => e = .returned (.bool false) ∧ Task w' p c 1 cl ∧ Below B w w' := by
  have c1 := h.c1
  have c0 := h.c0
  go_enter Try.func19, Try.ntmps19
  go_wp2_with fail
  refine (cas_miss p w c1 (h.free 1)).mono ?_
  rintro e w1 ⟨rfl, q, rfl⟩
  go_wp2
  go_ret
  exact ⟨rfl, ⟨h.cells, h.chan⟩, ⟨rfl, rfl, rfl, Nat.le_refl _, fun _ _ => rfl⟩⟩
end Go.Proofs.Qxb6616947a

import Derived.Test.Qxb6616779aRows
import Derived.WalkKit
import Derived.ProofKit
import Derived.Below
import Derived.Lib.SliceRun
import Derived.BigQuiet
import Derived.Deep.QuietTactic
import Derived.WalkSmall
import Derived.Deep.RegionWith
namespace Go.Proofs.Qxb6616779a
open Go.RowKit

/-- Block 'g' is a row of bytes, the numbers 'l', none of them frozen. -/
def Row (w : World) (g : Nat) (l : List Int) : Prop := w.heap[g]? = some (.cells (l.map (Value.int .u8)).toArray 5 (0, 0))

theorem Row.lt {w : World} {g : Nat} {l : List Int} (h : Row w g l) : g < w.heap.size := (Array.getElem?_eq_some_iff.1 h).1
theorem Row.cell {w : World} {g : Nat} {l : List Int} (h : Row w g l) {j : Nat} (hj : j < l.length) : w.cell? ⟨g, j, none⟩ = some (.int .u8 (l.getD j 0)) := by
  rw [cell_of_row w g j _ 5 (0, 0) h]
  simp [hj]
theorem Row.free {w : World} {g : Nat} {l : List Int} (h : Row w g l) (j : Nat) : w.frozen? ⟨g, j, none⟩ = false := frozen_of_row w g j _ 5 h
theorem Row.set {w : World} {g : Nat} {l : List Int} (h : Row w g l) (j : Nat) (z : Int) : Row (w.setCell ⟨g, j, none⟩ (.int .u8 z)) g (l.set j z) := by
  unfold Row
  rw [heap_setCell_same w g j _ 5 (.int .u8 z) h]
  simp [List.map_set]
theorem Row.kept {w w' : World} {g : Nat} {l : List Int} {row : Option Nat} (h : Row w g l) (hg : w.grownBy w' row) (hne : some g ≠ row) : Row w' g l := by
  unfold Row
  rw [hg.block g h.lt hne]
  exact h
theorem Row.below {w w' : World} {g : Nat} {l : List Int} {B : Nat} (h : Row w g l) (hg : Below B w w') (hne : g < B) : Row w' g l := by
  unfold Row
  rw [hg.block g hne]
  exact h
theorem Row.alloc {w : World} {g : Nat} {l : List Int} (h : Row w g l) (o : Obj) : Row (w.alloc o) g l := h.kept (World.grownBy_alloc w o none) (by simp)
theorem Row.drew {w : World} {g : Nat} {l : List Int} (h : Row w g l) : Row w.drew g l := h

/-- What 'both16' of 'v' makes of the bytes 'l'. -/
def b16 (v : Int) (l : List Int) : List Int := (((l.set 0 (v % 256)).set 1 (v / 256)).set 2 (v / 256)).set 3 (v % 256)

theorem grown_trans {a b c : World} {row : Option Nat} (h : a.grownBy b row) (k : b.grownBy c row) : a.grownBy c row :=
  ⟨k.os.trans h.os, k.tape.trans h.tape, k.output.trans h.output, Nat.le_trans h.size k.size, fun i hi hn => (k.block i (Nat.lt_of_lt_of_le hi h.size) hn).trans (h.block i hi hn)⟩
theorem grown_set (w : World) (g j : Nat) (u : Value) : w.grownBy (w.setCell ⟨g, j, none⟩ u) (some g) :=
  ⟨rfl, rfl, rfl, by simp, fun k _ hk => heap_setCell_other w ⟨g, j, none⟩ k u (fun e => hk (by simp [e]))⟩
theorem grown_drew {a b : World} {row : Option Nat} (h : a.grownBy b row) : a.grownBy b.drew row := ⟨h.os, h.tape, h.output, h.size, h.block⟩
theorem grown_of_below {w w' : World} {row : Option Nat} (h : Below w.heap.size w w') : w.grownBy w' row := ⟨h.os, h.tape, h.output, h.size, fun k hk _ => h.block k hk⟩
theorem below_of_grown {w w' : World} (h : w.grownBy w' none) : Below w.heap.size w w' := ⟨h.os, h.tape, h.output, h.size, fun k hk => h.block k hk (by simp)⟩

/-! ### the leaves -/
set_option maxHeartbeats 400000 in
theorem le16_any (g o n c : Nat) (v : Int) (h0 : 0 ≤ v) (h1 : v ≤ 65535) (w : World) (hn : 2 ≤ n) (x0 x1 : Value)
    (c0 : w.cell? ⟨g, o, none⟩ = some x0) (c1 : w.cell? ⟨g, o + 1, none⟩ = some x1) (f0 : w.frozen? ⟨g, o, none⟩ = false) (f1 : w.frozen? ⟨g, o + 1, none⟩ = false) :
    Calls Try.prog 17 #[.agg #[], .slice (some ⟨g, o, none⟩) n c, .int .u16 v] w fun e w' => e = .returned (.tuple #[]) ∧ ((w.setCell ⟨g, o, none⟩ (.int .u8 (v % 256))).setCell ⟨g, o + 1, none⟩ (.int .u8 (v / 256))).alloc (.cells #[] 36) = w' := by
  have hg : g < w.heap.size := World.block_lt_of_cell? w ⟨g, o, none⟩ c0
  have hi : (1 : Int) < (n : Int) := by omega
  go_enter Try.func17, Try.ntmps17
  go_wp2
  go_end0
  exact ⟨rfl, rfl⟩
set_option maxHeartbeats 400000 in
theorem be16_any (g o n c : Nat) (v : Int) (h0 : 0 ≤ v) (h1 : v ≤ 65535) (w : World) (hn : 2 ≤ n) (x0 x1 : Value)
    (c0 : w.cell? ⟨g, o, none⟩ = some x0) (c1 : w.cell? ⟨g, o + 1, none⟩ = some x1) (f0 : w.frozen? ⟨g, o, none⟩ = false) (f1 : w.frozen? ⟨g, o + 1, none⟩ = false) :
    Calls Try.prog 18 #[.agg #[], .slice (some ⟨g, o, none⟩) n c, .int .u16 v] w fun e w' => e = .returned (.tuple #[]) ∧ ((w.setCell ⟨g, o, none⟩ (.int .u8 (v / 256))).setCell ⟨g, o + 1, none⟩ (.int .u8 (v % 256))).alloc (.cells #[] 37) = w' := by
  have hg : g < w.heap.size := World.block_lt_of_cell? w ⟨g, o, none⟩ c0
  have hi : (1 : Int) < (n : Int) := by omega
  go_enter Try.func18, Try.ntmps18
  go_wp2
  go_end0
  exact ⟨rfl, rfl⟩

/-- The same of a row: what is known behind it. -/
theorem le16_row (g o n c : Nat) (v : Int) (h0 : 0 ≤ v) (h1 : v ≤ 65535) (l : List Int) (w : World) (hr : Row w g l) (ho : o + 2 ≤ l.length) (hn : 2 ≤ n) :
    Calls Try.prog 17 #[.agg #[], .slice (some ⟨g, o, none⟩) n c, .int .u16 v] w fun e w' => e = .returned (.tuple #[]) ∧ Row w' g ((l.set o (v % 256)).set (o + 1) (v / 256)) ∧ w.grownBy w' (some g) := by
  refine (le16_any g o n c v h0 h1 w hn _ _ (hr.cell (by omega)) (hr.cell (by omega)) (hr.free _) (hr.free _)).mono ?_
  rintro e w' ⟨rfl, rfl⟩
  exact ⟨rfl, ((hr.set o _).set (o + 1) _).alloc _, grown_trans (grown_trans (grown_set _ _ _ _) (grown_set _ _ _ _)) (World.grownBy_alloc _ _ _)⟩
theorem be16_row (g o n c : Nat) (v : Int) (h0 : 0 ≤ v) (h1 : v ≤ 65535) (l : List Int) (w : World) (hr : Row w g l) (ho : o + 2 ≤ l.length) (hn : 2 ≤ n) :
    Calls Try.prog 18 #[.agg #[], .slice (some ⟨g, o, none⟩) n c, .int .u16 v] w fun e w' => e = .returned (.tuple #[]) ∧ Row w' g ((l.set o (v / 256)).set (o + 1) (v % 256)) ∧ w.grownBy w' (some g) := by
  refine (be16_any g o n c v h0 h1 w hn _ _ (hr.cell (by omega)) (hr.cell (by omega)) (hr.free _) (hr.free _)).mono ?_
  rintro e w' ⟨rfl, rfl⟩
  exact ⟨rfl, ((hr.set o _).set (o + 1) _).alloc _, grown_trans (grown_trans (grown_set _ _ _ _) (grown_set _ _ _ _)) (World.grownBy_alloc _ _ _)⟩

set_option maxHeartbeats 400000 in
theorem both_any (g n c : Nat) (v : Int) (h0 : 0 ≤ v) (h1 : v ≤ 65535) (l : List Int) (w : World) (hr : Row w g l) (hl : 4 ≤ l.length) (hn : 4 ≤ n) (hc : n ≤ c) (hm : c ≤ 1048576) :
    Calls Try.prog 16 #[.slice (some ⟨g, 0, none⟩) n c, .int .u16 v] w fun e w' => e = .returned (.tuple #[]) ∧ Row w' g (b16 v l) ∧ w.grownBy w' (some g) := by
  go_enter Try.func16, Try.ntmps16
  go_wp2_with fail
  refine (le16_row g 0 n c v h0 h1 l w hr (by omega) (by omega)).mono ?_
  rintro e w1 ⟨rfl, hr1, hg1⟩
  have hc2 : ¬ c = 2 := by omega
  have hc3 : ¬ (c : Int) < 2 := by omega
  go_wp2_with fail
  go_region_with (go_at_call 18; refine (be16_row g 2 (n - 2) (c - 2) v h0 h1 _ _ hr1.drew (by simp; omega) (by omega)).mono ?_; rintro e w2 ⟨rfl, hr2, hg2⟩)
  all_goals
    go_end0
    exact ⟨rfl, hr2, grown_trans hg1 (⟨hg2.os, hg2.tape, hg2.output, hg2.size, hg2.block⟩)⟩

theorem zzboth_any (g n c : Nat) (v : Int) (h0 : 0 ≤ v) (h1 : v ≤ 65535) (l : List Int) (w : World) (hr : Row w g l) (hl : 4 ≤ l.length) (hn : 4 ≤ n) (hc : n ≤ c) (hm : c ≤ 1048576) :
    Calls Try.prog 11 #[.slice (some ⟨g, 0, none⟩) n c, .int .u16 v] w fun e w' => e = .returned (.tuple #[]) ∧ Row w' g (b16 v l) ∧ w.grownBy w' (some g) := by
  go_enter Try.func11, Try.ntmps11
  go_wp2_with fail
  refine (both_any g n c v h0 h1 l w hr hl hn hc hm).mono ?_
  rintro e w1 ⟨rfl, hr1, hg1⟩
  go_wp2
  go_end0
  exact ⟨rfl, hr1, hg1⟩

end Go.Proofs.Qxb6616779a

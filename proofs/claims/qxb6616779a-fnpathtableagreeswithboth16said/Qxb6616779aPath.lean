import Derived.Test.Qxb6616779aCallees
namespace Go.Proofs.Qxb6616779a
open Go.RowKit

set_option maxHeartbeats 400000 in
theorem le32_any (g o n c : Nat) (w : World) (hn : 4 ≤ n) (x0 x1 x2 x3 : Value)
    (c0 : w.cell? ⟨g, o, none⟩ = some x0) (c1 : w.cell? ⟨g, o + 1, none⟩ = some x1) (c2 : w.cell? ⟨g, o + 2, none⟩ = some x2) (c3 : w.cell? ⟨g, o + 3, none⟩ = some x3)
    (f0 : w.frozen? ⟨g, o, none⟩ = false) (f1 : w.frozen? ⟨g, o + 1, none⟩ = false) (f2 : w.frozen? ⟨g, o + 2, none⟩ = false) (f3 : w.frozen? ⟨g, o + 3, none⟩ = false) :
    Calls Try.prog 35 #[.agg #[], .slice (some ⟨g, o, none⟩) n c, .int .u32 21] w fun e w' => e = .returned (.tuple #[]) ∧ ((((w.setCell ⟨g, o, none⟩ (.int .u8 21)).setCell ⟨g, o + 1, none⟩ (.int .u8 0)).setCell ⟨g, o + 2, none⟩ (.int .u8 0)).setCell ⟨g, o + 3, none⟩ (.int .u8 0)).alloc (.cells #[] 36) = w' := by
  have hg : g < w.heap.size := World.block_lt_of_cell? w ⟨g, o, none⟩ c0
  have hi : (3 : Int) < (n : Int) := by omega
  have hi2 : (2 : Int) < (n : Int) := by omega
  have hi1 : (1 : Int) < (n : Int) := by omega
  go_enter Try.func35, Try.ntmps35
  go_wp2
  go_end0
  exact ⟨rfl, rfl⟩
set_option maxHeartbeats 400000 in
theorem be32_any (g o n c : Nat) (w : World) (hn : 4 ≤ n) (x0 x1 x2 x3 : Value)
    (c0 : w.cell? ⟨g, o, none⟩ = some x0) (c1 : w.cell? ⟨g, o + 1, none⟩ = some x1) (c2 : w.cell? ⟨g, o + 2, none⟩ = some x2) (c3 : w.cell? ⟨g, o + 3, none⟩ = some x3)
    (f0 : w.frozen? ⟨g, o, none⟩ = false) (f1 : w.frozen? ⟨g, o + 1, none⟩ = false) (f2 : w.frozen? ⟨g, o + 2, none⟩ = false) (f3 : w.frozen? ⟨g, o + 3, none⟩ = false) :
    Calls Try.prog 38 #[.agg #[], .slice (some ⟨g, o, none⟩) n c, .int .u32 21] w fun e w' => e = .returned (.tuple #[]) ∧ ((((w.setCell ⟨g, o, none⟩ (.int .u8 0)).setCell ⟨g, o + 1, none⟩ (.int .u8 0)).setCell ⟨g, o + 2, none⟩ (.int .u8 0)).setCell ⟨g, o + 3, none⟩ (.int .u8 21)).alloc (.cells #[] 37) = w' := by
  have hg : g < w.heap.size := World.block_lt_of_cell? w ⟨g, o, none⟩ c0
  have hi : (3 : Int) < (n : Int) := by omega
  have hi2 : (2 : Int) < (n : Int) := by omega
  have hi1 : (1 : Int) < (n : Int) := by omega
  go_enter Try.func38, Try.ntmps38
  go_wp2
  go_end0
  exact ⟨rfl, rfl⟩
theorem le32_row (g o n c : Nat) (l : List Int) (w : World) (hr : Row w g l) (ho : o + 4 ≤ l.length) (hn : 4 ≤ n) :
    Calls Try.prog 35 #[.agg #[], .slice (some ⟨g, o, none⟩) n c, .int .u32 21] w fun e w' => e = .returned (.tuple #[]) ∧ Row w' g ((((l.set o 21).set (o + 1) 0).set (o + 2) 0).set (o + 3) 0) ∧ w.grownBy w' (some g) := by
  refine (le32_any g o n c w hn _ _ _ _ (hr.cell (by omega)) (hr.cell (by omega)) (hr.cell (by omega)) (hr.cell (by omega)) (hr.free _) (hr.free _) (hr.free _) (hr.free _)).mono ?_
  rintro e w' ⟨rfl, rfl⟩
  exact ⟨rfl, ((((hr.set o _).set (o + 1) _).set (o + 2) _).set (o + 3) _).alloc _, grown_trans (grown_trans (grown_trans (grown_trans (grown_set _ _ _ _) (grown_set _ _ _ _)) (grown_set _ _ _ _)) (grown_set _ _ _ _)) (World.grownBy_alloc _ _ _)⟩
theorem be32_row (g o n c : Nat) (l : List Int) (w : World) (hr : Row w g l) (ho : o + 4 ≤ l.length) (hn : 4 ≤ n) :
    Calls Try.prog 38 #[.agg #[], .slice (some ⟨g, o, none⟩) n c, .int .u32 21] w fun e w' => e = .returned (.tuple #[]) ∧ Row w' g ((((l.set o 0).set (o + 1) 0).set (o + 2) 0).set (o + 3) 21) ∧ w.grownBy w' (some g) := by
  refine (be32_any g o n c w hn _ _ _ _ (hr.cell (by omega)) (hr.cell (by omega)) (hr.cell (by omega)) (hr.cell (by omega)) (hr.free _) (hr.free _) (hr.free _) (hr.free _)).mono ?_
  rintro e w' ⟨rfl, rfl⟩
  exact ⟨rfl, ((((hr.set o _).set (o + 1) _).set (o + 2) _).set (o + 3) _).alloc _, grown_trans (grown_trans (grown_trans (grown_trans (grown_set _ _ _ _) (grown_set _ _ _ _)) (grown_set _ _ _ _)) (grown_set _ _ _ _)) (World.grownBy_alloc _ _ _)⟩

theorem ahead36_32 (w : World) : (nilAhead 162 36 (.agg #[]) "PutUint32").run Try.prog w = .ok (some false) w := by kernel_rfl
theorem ahead36_16 (w : World) : (nilAhead 162 36 (.agg #[]) "PutUint16").run Try.prog w = .ok (some false) w := by kernel_rfl
theorem ahead37_32 (w : World) : (nilAhead 162 37 (.agg #[]) "PutUint32").run Try.prog w = .ok (some false) w := by kernel_rfl
theorem ahead37_16 (w : World) : (nilAhead 162 37 (.agg #[]) "PutUint16").run Try.prog w = .ok (some false) w := by kernel_rfl
theorem meth36_32 (w : World) : (method 162 36 (.agg #[]) "PutUint32").run Try.prog w = .ok (35, .agg #[]) w := by kernel_rfl
theorem meth36_16 (w : World) : (method 162 36 (.agg #[]) "PutUint16").run Try.prog w = .ok (17, .agg #[]) w := by kernel_rfl
theorem meth37_32 (w : World) : (method 162 37 (.agg #[]) "PutUint32").run Try.prog w = .ok (38, .agg #[]) w := by kernel_rfl
theorem meth37_16 (w : World) : (method 162 37 (.agg #[]) "PutUint16").run Try.prog w = .ok (18, .agg #[]) w := by kernel_rfl

set_option maxHeartbeats 1000000 in
theorem tableLE (g n c : Nat) (l : List Int) (w : World) (hr : Row w g l) (hl : 8 ≤ l.length) (hn : 8 ≤ n) (hc : n ≤ c) :
    Calls Try.prog 15 #[.slice (some ⟨g, 0, none⟩) n c, .iface 36 (.agg #[])] w fun e w' => e = .returned (.tuple #[]) ∧ Row w' g (((((((l.set 0 1).set 2 21).set 3 0).set 4 0).set 5 0).set 6 1).set 7 0) ∧ w.grownBy w' (some g) := by
  have hmf : ∀ (fn : Fn) (first cap : Array Value) (w : World), (Instr.makeFunc fn first cap).run Try.prog w = .ok (.func fn first cap) w := fun _ _ _ _ => rfl
  have n32 := ahead36_32
  have n16 := ahead36_16
  have m32 := meth36_32
  have m16 := meth36_16
  have c0 := hr.cell (j := 0) (by omega)
  have f0 := hr.free 0
  have i0 : (0 : Int) < (n : Int) := by omega
  have i2 : (2 : Int) ≤ (n : Int) := by omega
  have i6 : (6 : Int) ≤ (n : Int) := by omega
  have n2 : ¬ c = 2 := by omega
  have n6 : ¬ c = 6 := by omega
  go_enter Try.func15, Try.ntmps15
  go_wp2_with fail
  have r1 : Row (w.setCell ⟨g, 0, none⟩ (.int .u8 1)) g (l.set 0 1) := hr.set 0 1
  have g1 := grown_set w g 0 (.int .u8 1)
  clear c0 f0 hr
  generalize w.setCell ⟨g, 0, none⟩ (.int .u8 1) = w1 at r1 g1 ⊢
  go_region_with (go_at_call 35; refine (le32_row g 2 (n - 2) (c - 2) _ _ r1.drew (by simp; omega) (by omega)).mono ?_; rintro e w2 ⟨rfl, r2, g2⟩)
  clear r1
  replace g2 : w1.grownBy w2 (some g) := ⟨g2.os, g2.tape, g2.output, g2.size, g2.block⟩
  go_wp2_with fail
  go_region_with (go_at_call 17; refine (le16_row g 6 (n - 6) (c - 6) 1 (by omega) (by omega) _ _ r2.drew (by simp; omega) (by omega)).mono ?_; rintro e w3 ⟨rfl, r3, g3⟩)
  replace g3 : w2.grownBy w3 (some g) := ⟨g3.os, g3.tape, g3.output, g3.size, g3.block⟩
  go_wp2
  go_end0
  exact ⟨rfl, r3, grown_trans g1 (grown_trans g2 g3)⟩

set_option maxHeartbeats 1000000 in
theorem tableBE (g n c : Nat) (l : List Int) (w : World) (hr : Row w g l) (hl : 8 ≤ l.length) (hn : 8 ≤ n) (hc : n ≤ c) :
    Calls Try.prog 15 #[.slice (some ⟨g, 0, none⟩) n c, .iface 37 (.agg #[])] w fun e w' => e = .returned (.tuple #[]) ∧ Row w' g (((((((l.set 0 1).set 2 0).set 3 0).set 4 0).set 5 21).set 6 0).set 7 1) ∧ w.grownBy w' (some g) := by
  have hmf : ∀ (fn : Fn) (first cap : Array Value) (w : World), (Instr.makeFunc fn first cap).run Try.prog w = .ok (.func fn first cap) w := fun _ _ _ _ => rfl
  have n32 := ahead37_32
  have n16 := ahead37_16
  have m32 := meth37_32
  have m16 := meth37_16
  have c0 := hr.cell (j := 0) (by omega)
  have f0 := hr.free 0
  have i0 : (0 : Int) < (n : Int) := by omega
  have i2 : (2 : Int) ≤ (n : Int) := by omega
  have i6 : (6 : Int) ≤ (n : Int) := by omega
  have n2 : ¬ c = 2 := by omega
  have n6 : ¬ c = 6 := by omega
  go_enter Try.func15, Try.ntmps15
  go_wp2_with fail
  have r1 : Row (w.setCell ⟨g, 0, none⟩ (.int .u8 1)) g (l.set 0 1) := hr.set 0 1
  have g1 := grown_set w g 0 (.int .u8 1)
  clear c0 f0 hr
  generalize w.setCell ⟨g, 0, none⟩ (.int .u8 1) = w1 at r1 g1 ⊢
  go_region_with (go_at_call 38; refine (be32_row g 2 (n - 2) (c - 2) _ _ r1.drew (by simp; omega) (by omega)).mono ?_; rintro e w2 ⟨rfl, r2, g2⟩)
  clear r1
  replace g2 : w1.grownBy w2 (some g) := ⟨g2.os, g2.tape, g2.output, g2.size, g2.block⟩
  go_wp2_with fail
  go_region_with (go_at_call 18; refine (be16_row g 6 (n - 6) (c - 6) 1 (by omega) (by omega) _ _ r2.drew (by simp; omega) (by omega)).mono ?_; rintro e w3 ⟨rfl, r3, g3⟩)
  replace g3 : w2.grownBy w3 (some g) := ⟨g3.os, g3.tape, g3.output, g3.size, g3.block⟩
  go_wp2
  go_end0
  exact ⟨rfl, r3, grown_trans g1 (grown_trans g2 g3)⟩

def tLE (l : List Int) : List Int := ((((((l.set 0 1).set 2 21).set 3 0).set 4 0).set 5 0).set 6 1).set 7 0
def tBE (l : List Int) : List Int := ((((((l.set 0 1).set 2 0).set 3 0).set 4 0).set 5 21).set 6 0).set 7 1

theorem pathLE (g n c : Nat) (l : List Int) (w : World) (hr : Row w g l) (hl : 8 ≤ l.length) (hn : 8 ≤ n) (hc : n ≤ c) :
    Calls Try.prog 8 #[.slice (some ⟨g, 0, none⟩) n c] w fun e w' => e = .returned (.tuple #[]) ∧ Row w' g (tLE l) ∧ w.grownBy w' (some g) := by
  go_enter Try.func8, Try.ntmps8
  go_wp2_with fail
  refine (tableLE g n c l w hr hl hn hc).mono ?_
  rintro e w1 ⟨rfl, hr1, hg1⟩
  go_wp2
  go_end0
  exact ⟨rfl, hr1, hg1⟩
theorem pathBE (g n c : Nat) (l : List Int) (w : World) (hr : Row w g l) (hl : 8 ≤ l.length) (hn : 8 ≤ n) (hc : n ≤ c) :
    Calls Try.prog 9 #[.slice (some ⟨g, 0, none⟩) n c] w fun e w' => e = .returned (.tuple #[]) ∧ Row w' g (tBE l) ∧ w.grownBy w' (some g) := by
  go_enter Try.func9, Try.ntmps9
  go_wp2_with fail
  refine (tableBE g n c l w hr hl hn hc).mono ?_
  rintro e w1 ⟨rfl, hr1, hg1⟩
  go_wp2
  go_end0
  exact ⟨rfl, hr1, hg1⟩

theorem tLE_form (l : List Int) (hl : 8 ≤ l.length) : tLE l = [1, l.getD 1 0, 21, 0, 0, 0, 1, 0] ++ l.drop 8 := by
  match l, hl with
  | _ :: _ :: _ :: _ :: _ :: _ :: _ :: _ :: _, _ => simp [tLE]
theorem tBE_form (l : List Int) (hl : 8 ≤ l.length) : tBE l = [1, l.getD 1 0, 0, 0, 0, 21, 0, 1] ++ l.drop 8 := by
  match l, hl with
  | _ :: _ :: _ :: _ :: _ :: _ :: _ :: _ :: _, _ => simp [tBE]

end Go.Proofs.Qxb6616779a

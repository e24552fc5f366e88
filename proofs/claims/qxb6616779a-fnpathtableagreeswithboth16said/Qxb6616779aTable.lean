import Derived.Test.Qxb6616779aPath
namespace Go.Proofs.Qxb6616779a
open Go.RowKit

theorem root_any (w : World) : Calls Try.prog 10 #[] w fun e w' => e = .returned (.int .u32 21) ∧ w = w' := by
  go_enter Try.func10, Try.ntmps10
  go_wp2
  go_ret
  exact ⟨rfl, rfl⟩
theorem make4 (w : World) : (Instr.makeSlice 22 (.int .i64 4) (.int .i64 4)).run Try.prog w = .ok (.slice (some ⟨w.heap.size, 0, none⟩) 4 4) (w.alloc (.cells #[.int .u8 0, .int .u8 0, .int .u8 0, .int .u8 0] 5)) := by kernel_rfl
theorem row_zero (w : World) : Row (w.alloc (.cells #[.int .u8 0, .int .u8 0, .int .u8 0, .int .u8 0] 5)) w.heap.size [0, 0, 0, 0] := heap_alloc_new w _

theorem fresh_both (w : World) (v : Int) (h0 : 0 ≤ v) (h1 : v ≤ 65535) :
    Calls Try.prog 11 #[.slice (some ⟨w.heap.size, 0, none⟩) 4 4, .int .u16 v] (w.alloc (.cells #[.int .u8 0, .int .u8 0, .int .u8 0, .int .u8 0] 5)) fun e w' =>
      e = .returned (.tuple #[]) ∧ Row w' w.heap.size [v % 256, v / 256, v / 256, v % 256] ∧ w.grownBy w' none := by
  refine (zzboth_any w.heap.size 4 4 v h0 h1 [0, 0, 0, 0] _ (row_zero w) (by simp) (by omega) (by omega) (by omega)).mono ?_
  rintro e w' ⟨rfl, hr, hg⟩
  exact ⟨rfl, hr, ⟨hg.os, hg.tape, hg.output, by have := hg.size; simp at this; omega, fun k hk _ => (hg.block k (by simp; omega) (by simp; omega)).trans (Below.heap_alloc w _ k hk)⟩⟩
theorem ne_of_row {w : World} {g : Nat} {l : List Int} (h : Row w g l) : g ≠ w.heap.size := by have := h.lt; omega

set_option maxHeartbeats 1000000 in
theorem table_main (x : Addr) (n c : Nat) (zs : List Int) (w : World) (hbig : n ≤ 1048576) (h8 : 8 ≤ n) (hl : n ≤ zs.length) (hcell : ∀ i, i < n → w.cell? (x.add i) = some (.int .u8 (zs.getD i 0))) :
    Calls Try.prog 3 #[.slice (some x) n c] w fun e w' => e = .returned (.bool true) ∧ Below w.heap.size w w' := by
  have mk4 := make4
  go_enter Try.func3, Try.ntmps3
  go_wp2_with fail
  refine (bytes6 _ _ _ _).mono ?_
  rintro e w' ⟨rfl, hw'⟩
  obtain rfl : w = w' := hw'.symm
  clear hw'
  simp only [decide_eq_true hbig]
  go_wp2_with fail
  refine (clone_arg x n c zs _ hbig hl hcell).mono ?_
  rintro e w1 ⟨b0, L, rfl, hb0, hL, r0, g1⟩
  clear hcell
  go_wp2_with fail
  refine (clone_row b0 n L _ hbig r0 hL).mono ?_
  rintro e w2 ⟨b1, rfl, hb1, r1, g2⟩
  have lt0 := r0.lt
  replace r0 := r0.kept g2 (by simp)
  go_wp2_with fail
  refine (pathLE b1 n n L _ r1 (by omega) h8 (Nat.le_refl _)).mono ?_
  rintro e w3 ⟨rfl, r1, g3⟩
  replace r0 := r0.kept g3 (by simp; omega)
  go_wp2_with fail
  refine (clone_row b0 n L _ hbig r0 hL).mono ?_
  rintro e w4 ⟨b2, rfl, hb2, r2, g4⟩
  have lt1 := r1.lt
  replace r0 := r0.kept g4 (by simp)
  replace r1 := r1.kept g4 (by simp)
  go_wp2_with fail
  refine (pathBE b2 n n L _ r2 (by omega) h8 (Nat.le_refl _)).mono ?_
  rintro e w5 ⟨rfl, r2, g5⟩
  replace r0 := r0.kept g5 (by simp; omega)
  replace r1 := r1.kept g5 (by simp; omega)
  have lt2 := r2.lt
  have z1 := g1.size
  have z2 := g2.size
  have z3 := g3.size
  have z4 := g4.size
  have bel : Below w.heap.size w w5 :=
    (((((Below.refl _ w).grown g1 (Nat.le_refl _) (by simp)).grown g2 (by omega) (by simp)).grown g3 (by omega) (by intro k hk; cases hk; omega)).grown g4 (by omega) (by simp)).grown g5 (by omega) (by intro k hk; cases hk; omega)
  have n01 : b0 ≠ b1 := by omega
  have n02 : b0 ≠ b2 := by omega
  have n12 : b1 ≠ b2 := by omega
  have zw := bel.size
  clear g1 g2 g3 g4 g5 z1 z2 z3 z4 hb0 hb1 hb2 lt0 lt1 lt2
  go_wp2_with fail
  refine (root_any _).mono ?_
  rintro e w5' ⟨rfl, rfl⟩
  go_wp2_with fail
  refine (fresh_both w5 1 (by omega) (by omega)).mono ?_
  rintro e w6 ⟨rfl, r3, g6⟩
  replace r0 := r0.kept g6 (by simp)
  replace r1 := r1.kept g6 (by simp)
  replace r2 := r2.kept g6 (by simp)
  have bel6 : Below w.heap.size w w6 := bel.grown g6 zw (by simp)
  have zw6 := bel6.size
  clear bel g6 zw
  generalize w5.heap.size = b3 at r3 ⊢
  go_wp2_with fail
  refine (fresh_both w6 21 (by omega) (by omega)).mono ?_
  rintro e w7 ⟨rfl, r4, g7⟩
  replace r0 := r0.kept g7 (by simp)
  replace r1 := r1.kept g7 (by simp)
  replace r2 := r2.kept g7 (by simp)
  replace r3 := r3.kept g7 (by simp)
  have bel7 : Below w.heap.size w w7 := bel6.grown g7 zw6 (by simp)
  have zw7 := bel7.size
  clear bel6 g7 zw6
  generalize w6.heap.size = b4 at r4 ⊢
  go_wp2_with fail
  refine (fresh_both w7 0 (by omega) (by omega)).mono ?_
  rintro e w8 ⟨rfl, r5, g8⟩
  replace r0 := r0.kept g8 (by simp)
  replace r1 := r1.kept g8 (by simp)
  replace r2 := r2.kept g8 (by simp)
  replace r3 := r3.kept g8 (by simp)
  replace r4 := r4.kept g8 (by simp)
  have bel8 : Below w.heap.size w w8 := bel7.grown g8 zw7 (by simp)
  clear bel7 g8 zw7
  generalize w7.heap.size = b5 at r5 ⊢
  rw [tLE_form L (by omega)] at r1
  rw [tBE_form L (by omega)] at r2
  have c1 := r0.cell (j := 1) (by omega)
  generalize L.getD 1 0 = t at c1 r1 r2
  have cx0 : w8.cell? ⟨b1, 0, none⟩ = some (.int .u8 1) := r1.cell (j := 0) (by simp)
  have cx1 : w8.cell? ⟨b1, 1, none⟩ = some (.int .u8 t) := r1.cell (j := 1) (by simp)
  have cy0 : w8.cell? ⟨b2, 0, none⟩ = some (.int .u8 1) := r2.cell (j := 0) (by simp)
  have cy1 : w8.cell? ⟨b2, 1, none⟩ = some (.int .u8 t) := r2.cell (j := 1) (by simp)
  have i0 : (0 : Int) < (n : Int) := by omega
  have i1 : (1 : Int) < (n : Int) := by omega
  go_wp2_with fail
  go_quiet (fail)
  clear cx0 cx1 cy0 cy1 c1 i0 i1
  have bel9 : Below w.heap.size w (w8.drewN nq) := below_drewN bel8 nq
  replace r0 : Row (w8.drewN nq) b0 L := r0
  replace r1 : Row (w8.drewN nq) b1 ([1, t, 21, 0, 0, 0, 1, 0] ++ L.drop 8) := r1
  replace r2 : Row (w8.drewN nq) b2 ([1, t, 0, 0, 0, 21, 0, 1] ++ L.drop 8) := r2
  replace r3 : Row (w8.drewN nq) b3 [1 % 256, 1 / 256, 1 / 256, 1 % 256] := r3
  replace r4 : Row (w8.drewN nq) b4 [21 % 256, 21 / 256, 21 / 256, 21 % 256] := r4
  replace r5 : Row (w8.drewN nq) b5 [0 % 256, 0 / 256, 0 / 256, 0 % 256] := r5
  generalize w8.drewN nq = w9 at bel9 r0 r1 r2 r3 r4 r5 ⊢
  clear nq bel8
  have i2 : (2 : Int) ≤ (n : Int) := by omega
  have i4 : (4 : Int) ≤ (n : Int) := by omega
  have i6 : (6 : Int) ≤ (n : Int) := by omega
  have i8 : (8 : Int) ≤ (n : Int) := by omega
  have n2 : ¬ n = 2 := by omega
  have n4 : ¬ n = 4 := by omega
  have n6 : ¬ n = 6 := by omega
  have E1 := fun q => equal_yes b1 b4 2 0 2 (n - 2) 4 _ _ (w9.drewN q) r1 r4 (by omega) (by simp) (by simp) rfl
  have E2 := fun q => equal_yes b1 b5 4 0 2 (n - 4) 4 _ _ (w9.drewN q) r1 r5 (by omega) (by simp) (by simp) rfl
  have H1 : Hid _ := E1
  have H2 : Hid _ := E2
  clear E1 E2
  go_wp2_with fail
  go_quiet (first | (go_at_call 12; with_reducible exact Calls.quiet_of (H1.out _)) | (go_at_call 12; with_reducible exact Calls.quiet_of (H2.out _)))
  clear H1 H2
  have bel10 : Below w.heap.size w (w9.drewN nq) := below_drewN bel9 nq
  replace r0 : Row (w9.drewN nq) b0 L := r0
  replace r1 : Row (w9.drewN nq) b1 ([1, t, 21, 0, 0, 0, 1, 0] ++ L.drop 8) := r1
  replace r2 : Row (w9.drewN nq) b2 ([1, t, 0, 0, 0, 21, 0, 1] ++ L.drop 8) := r2
  replace r3 : Row (w9.drewN nq) b3 [1 % 256, 1 / 256, 1 / 256, 1 % 256] := r3
  replace r4 : Row (w9.drewN nq) b4 [21 % 256, 21 / 256, 21 / 256, 21 % 256] := r4
  replace r5 : Row (w9.drewN nq) b5 [0 % 256, 0 / 256, 0 / 256, 0 % 256] := r5
  generalize w9.drewN nq = w10 at bel10 r0 r1 r2 r3 r4 r5 ⊢
  clear nq bel9
  have E1 := fun q => equal_yes b2 b5 2 2 2 (n - 2) 2 _ _ (w10.drewN q) r2 r5 (by omega) (by simp) (by simp) rfl
  have E2 := fun q => equal_yes b2 b4 4 2 2 (n - 4) 2 _ _ (w10.drewN q) r2 r4 (by omega) (by simp) (by simp) rfl
  have H1 : Hid _ := E1
  have H2 : Hid _ := E2
  clear E1 E2
  go_wp2_with fail
  go_quiet (first | (go_at_call 12; with_reducible exact Calls.quiet_of (H1.out _)) | (go_at_call 12; with_reducible exact Calls.quiet_of (H2.out _)))
  clear H1 H2
  have bel11 : Below w.heap.size w (w10.drewN nq) := below_drewN bel10 nq
  replace r0 : Row (w10.drewN nq) b0 L := r0
  replace r1 : Row (w10.drewN nq) b1 ([1, t, 21, 0, 0, 0, 1, 0] ++ L.drop 8) := r1
  replace r2 : Row (w10.drewN nq) b2 ([1, t, 0, 0, 0, 21, 0, 1] ++ L.drop 8) := r2
  replace r3 : Row (w10.drewN nq) b3 [1 % 256, 1 / 256, 1 / 256, 1 % 256] := r3
  replace r4 : Row (w10.drewN nq) b4 [21 % 256, 21 / 256, 21 / 256, 21 % 256] := r4
  replace r5 : Row (w10.drewN nq) b5 [0 % 256, 0 / 256, 0 / 256, 0 % 256] := r5
  generalize w10.drewN nq = w11 at bel11 r0 r1 r2 r3 r4 r5 ⊢
  clear nq bel10
  have E1 := fun q => equal_yes b1 b3 6 0 2 (n - 6) 4 _ _ (w11.drewN q) r1 r3 (by omega) (by simp) (by simp) rfl
  have E2 := fun q => equal_yes b2 b3 6 2 2 (n - 6) 2 _ _ (w11.drewN q) r2 r3 (by omega) (by simp) (by simp) rfl
  have H1 : Hid _ := E1
  have H2 : Hid _ := E2
  clear E1 E2
  go_wp2_with fail
  go_quiet (first | (go_at_call 12; with_reducible exact Calls.quiet_of (H1.out _)) | (go_at_call 12; with_reducible exact Calls.quiet_of (H2.out _)))
  clear H1 H2
  have bel12 : Below w.heap.size w (w11.drewN nq) := below_drewN bel11 nq
  replace r0 : Row (w11.drewN nq) b0 L := r0
  replace r1 : Row (w11.drewN nq) b1 ([1, t, 21, 0, 0, 0, 1, 0] ++ L.drop 8) := r1
  replace r2 : Row (w11.drewN nq) b2 ([1, t, 0, 0, 0, 21, 0, 1] ++ L.drop 8) := r2
  replace r3 : Row (w11.drewN nq) b3 [1 % 256, 1 / 256, 1 / 256, 1 % 256] := r3
  replace r4 : Row (w11.drewN nq) b4 [21 % 256, 21 / 256, 21 / 256, 21 % 256] := r4
  replace r5 : Row (w11.drewN nq) b5 [0 % 256, 0 / 256, 0 / 256, 0 % 256] := r5
  generalize w11.drewN nq = w12 at bel12 r0 r1 r2 r3 r4 r5 ⊢
  clear nq bel11
  by_cases e8 : n = 8
  · have E1 := fun q => equal_yes b1 b0 0 0 0 0 0 _ _ (w12.drewN q) r1 r0 (by omega) (by omega) (by omega) rfl
    have E2 := fun q => equal_yes b2 b0 0 0 0 0 0 _ _ (w12.drewN q) r2 r0 (by omega) (by omega) (by omega) rfl
    have H1 : Hid _ := E1
    have H2 : Hid _ := E2
    clear E1 E2
    go_wp2_with fail
    go_quiet (first | (go_at_call 12; with_reducible exact Calls.quiet_of (H1.out _)) | (go_at_call 12; with_reducible exact Calls.quiet_of (H2.out _)))
    go_wp2
    go_ret
    exact ⟨rfl, below_drewN bel12 _⟩
  · have E1 := fun q => equal_yes b1 b0 8 8 (n - 8) (n - 8) (n - 8) _ _ (w12.drewN q) r1 r0 (by omega) (by simp; omega) (by omega) rfl
    have E2 := fun q => equal_yes b2 b0 8 8 (n - 8) (n - 8) (n - 8) _ _ (w12.drewN q) r2 r0 (by omega) (by simp; omega) (by omega) rfl
    have H1 : Hid _ := E1
    have H2 : Hid _ := E2
    clear E1 E2
    go_wp2_with fail
    go_quiet (first | (go_at_call 12; with_reducible exact Calls.quiet_of (H1.out _)) | (go_at_call 12; with_reducible exact Calls.quiet_of (H2.out _)))
    go_wp2
    go_ret
    exact ⟨rfl, below_drewN bel12 _⟩

end Go.Proofs.Qxb6616779a

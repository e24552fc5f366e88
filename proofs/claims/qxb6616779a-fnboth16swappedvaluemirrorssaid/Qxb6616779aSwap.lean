import Derived.Test.Qxb6616779aCallees
import Derived.Lib.EndianBits
namespace Go.Proofs.Qxb6616779a
open Go.RowKit

/-- A number of two bytes with its bytes swapped. -/
def swp (v : Int) : Int := v / 256 + v % 256 * 256
theorem swp_lo (v : Int) (h0 : 0 ≤ v) (h1 : v ≤ 65535) : swp v % 256 = v / 256 := by unfold swp; omega
theorem swp_hi (v : Int) (h0 : 0 ≤ v) (h1 : v ≤ 65535) : swp v / 256 = v % 256 := by unfold swp; omega
theorem swp_bd (v : Int) (h0 : 0 ≤ v) (h1 : v ≤ 65535) : 0 ≤ swp v ∧ swp v ≤ 65535 := by unfold swp; omega
theorem swp_or (v : Int) (h0 : 0 ≤ v) (h1 : v ≤ 65535) : bits .or .u16 (v / 256) (IntKind.u16.wrap (v * 256)) = swp v := by
  rw [IntKind.wrap_u16, u16_or8 _ _ (by omega) (by omega) (by omega) (by omega) (by omega)]
  unfold swp
  omega

theorem swp_first (v : Int) (h0 : 0 ≤ v) (h1 : v ≤ 65535) (L : List Int) (hL : 4 ≤ L.length) : ((b16 v L).drop 0).take 2 = ((b16 (swp v) L).drop 2).take 2 := by
  rw [b16_form v L hL, b16_form (swp v) L hL, swp_lo v h0 h1, swp_hi v h0 h1]; rfl
theorem swp_second (v : Int) (h0 : 0 ≤ v) (h1 : v ≤ 65535) (L : List Int) (hL : 4 ≤ L.length) : ((b16 v L).drop 2).take 2 = ((b16 (swp v) L).drop 0).take 2 := by
  rw [b16_form v L hL, b16_form (swp v) L hL, swp_lo v h0 h1, swp_hi v h0 h1]; rfl
theorem b16_rest (v : Int) (L : List Int) (hL : 4 ≤ L.length) (k : Nat) : ((b16 v L).drop 4).take k = (L.drop 4).take k := by
  rw [b16_form v L hL]; rfl

set_option maxHeartbeats 1000000 in
theorem swap_main (x : Addr) (n c : Nat) (zs : List Int) (v : Int) (w : World) (h0 : 0 ≤ v) (h1 : v ≤ 65535) (hbig : n ≤ 1048576) (h4 : 4 ≤ n) (hl : n ≤ zs.length) (hcell : ∀ i, i < n → w.cell? (x.add i) = some (.int .u8 (zs.getD i 0))) :
    Calls Try.prog 4 #[.slice (some x) n c, .int .u16 v] w fun e w' => e = .returned (.bool true) ∧ Below w.heap.size w w' := by
  have hsw := swp_or v h0 h1
  obtain ⟨s0, s1⟩ := swp_bd v h0 h1
  go_enter Try.func4, Try.ntmps4
  go_wp2_with fail
  refine (bytes13 _ _ _ _ _).mono ?_
  rintro e w' ⟨rfl, hw'⟩
  obtain rfl : w = w' := hw'.symm
  clear hw'
  simp only [decide_eq_true hbig]
  go_wp2_with fail
  refine (clone_arg x n c zs _ hbig hl hcell).mono ?_
  rintro e w1 ⟨b0, L, rfl, hb0, hL, r0, g1⟩
  clear hcell
  go_wp2_with fail
  refine (clone_row b0 n L _ hbig r0 hL).mono ?_
  rintro e w2 ⟨b1, rfl, hb1, r1, g2⟩
  have lt0 := r0.lt
  replace r0 := r0.kept g2 (by simp)
  go_wp2_with fail
  refine (zzboth_any b1 n n v h0 h1 L _ r1 (by omega) h4 (Nat.le_refl _) hbig).mono ?_
  rintro e w3 ⟨rfl, r1, g3⟩
  replace r0 := r0.kept g3 (by simp; omega)
  go_wp2_with fail
  refine (clone_row b0 n L _ hbig r0 hL).mono ?_
  rintro e w4 ⟨b2, rfl, hb2, r2, g4⟩
  have lt1 := r1.lt
  replace r0 := r0.kept g4 (by simp)
  replace r1 := r1.kept g4 (by simp)
  go_wp2_with fail
  refine (zzboth_any b2 n n (swp v) s0 s1 L _ r2 (by omega) h4 (Nat.le_refl _) hbig).mono ?_
  rintro e w5 ⟨rfl, r2, g5⟩
  replace r0 := r0.kept g5 (by simp; omega)
  replace r1 := r1.kept g5 (by simp; omega)
  have z1 := g1.size
  have z2 := g2.size
  have z3 := g3.size
  have z4 := g4.size
  have bel : Below w.heap.size w w5 :=
    (((((Below.refl _ w).grown g1 (Nat.le_refl _) (by simp)).grown g2 (by omega) (by simp)).grown g3 (by omega) (by intro k hk; cases hk; omega)).grown g4 (by omega) (by simp)).grown g5 (by omega) (by intro k hk; cases hk; omega)
  clear g1 g2 g3 g4 g5 z1 z2 z3 z4 hb0 hb1 hb2 lt0 lt1 hsw
  obtain ⟨x0, x1, x2, x3⟩ := b16_get v L (by omega)
  obtain ⟨y0, y1, y2, y3⟩ := b16_get (swp v) L (by omega)
  have cx0 := r1.cell (j := 0) (by rw [b16_length]; omega)
  have cx1 := r1.cell (j := 1) (by rw [b16_length]; omega)
  have cy0 := r2.cell (j := 0) (by rw [b16_length]; omega)
  have cy1 := r2.cell (j := 1) (by rw [b16_length]; omega)
  rw [x0] at cx0
  rw [x1] at cx1
  rw [y0] at cy0
  rw [y1] at cy1
  clear x0 x1 x2 x3 y0 y1 y2 y3
  have i1 : (1 : Int) < (n : Int) := by omega
  have i4 : (4 : Int) ≤ (n : Int) := by omega
  go_wp2_with fail
  have n2 : ¬ n = 2 := by omega
  have n0 : ¬ n = 0 := by omega
  have i2 : (2 : Int) ≤ (n : Int) := by omega
  have e1 := swp_first v h0 h1 L (by omega)
  have e2 := swp_second v h0 h1 L (by omega)
  have E1 := fun q => equal_yes b1 b2 0 2 2 n (n - 2) (b16 v L) (b16 (swp v) L) (w5.drewN q) r1 r2 (by omega) (by rw [b16_length]; omega) (by rw [b16_length]; omega) e1
  have E2 := fun q => equal_yes b1 b2 2 0 2 (n - 2) n (b16 v L) (b16 (swp v) L) (w5.drewN q) r1 r2 (by omega) (by rw [b16_length]; omega) (by rw [b16_length]; omega) e2
  have H1 : Hid _ := E1
  have H2 : Hid _ := E2
  clear E1 E2 e1 e2
  go_quiet (first | (go_at_call 12; with_reducible exact Calls.quiet_of (H1.out _)) | (go_at_call 12; with_reducible exact Calls.quiet_of (H2.out _)))
  go_wp2_with fail
  clear H1 H2 cx0 cx1 cy0 cy1 i1 i2
  have bel' : Below w.heap.size w (w5.drewN nq) := below_drewN bel nq
  have r0' : Row (w5.drewN nq) b0 L := r0
  have r1' : Row (w5.drewN nq) b1 (b16 v L) := r1
  have r2' : Row (w5.drewN nq) b2 (b16 (swp v) L) := r2
  clear bel r0 r1 r2
  generalize w5.drewN nq = w6 at bel' r0' r1' r2' ⊢
  by_cases e4 : n = 4
  · have E1 := fun q => equal_yes b1 b0 0 0 0 0 0 (b16 v L) L (w6.drewN q) r1' r0' (by omega) (by omega) (by omega) rfl
    have E2 := fun q => equal_yes b2 b0 0 0 0 0 0 (b16 (swp v) L) L (w6.drewN q) r2' r0' (by omega) (by omega) (by omega) rfl
    have H1 : Hid _ := E1
    have H2 : Hid _ := E2
    clear E1 E2
    go_quiet (first | (go_at_call 12; with_reducible exact Calls.quiet_of (H1.out _)) | (go_at_call 12; with_reducible exact Calls.quiet_of (H2.out _)))
    go_wp2
    go_ret
    exact ⟨rfl, below_drewN bel' _⟩
  · have E1 := fun q => equal_yes b1 b0 4 4 (n - 4) (n - 4) (n - 4) (b16 v L) L (w6.drewN q) r1' r0' (by omega) (by rw [b16_length]; omega) (by omega) (b16_rest v L (by omega) _)
    have E2 := fun q => equal_yes b2 b0 4 4 (n - 4) (n - 4) (n - 4) (b16 (swp v) L) L (w6.drewN q) r2' r0' (by omega) (by rw [b16_length]; omega) (by omega) (b16_rest (swp v) L (by omega) _)
    have H1 : Hid _ := E1
    have H2 : Hid _ := E2
    clear E1 E2
    go_quiet (first | (go_at_call 12; with_reducible exact Calls.quiet_of (H1.out _)) | (go_at_call 12; with_reducible exact Calls.quiet_of (H2.out _)))
    go_wp2
    go_ret
    exact ⟨rfl, below_drewN bel' _⟩

end Go.Proofs.Qxb6616779a

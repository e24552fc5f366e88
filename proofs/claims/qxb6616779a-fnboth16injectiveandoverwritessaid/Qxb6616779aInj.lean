import Derived.Test.Qxb6616779aCallees
namespace Go.Proofs.Qxb6616779a
open Go.RowKit

theorem b16_over (v u : Int) (L : List Int) (hL : 4 ≤ L.length) : b16 u (b16 v L) = b16 u L := by
  rw [b16_form u (b16 v L) (by rw [b16_length]; exact hL), b16_form u L hL, b16_form v L hL]; rfl
theorem b16_inj (v u : Int) (L : List Int) (hL : 4 ≤ L.length) (h : b16 v L = b16 u L) : v = u := by
  rw [b16_form v L hL, b16_form u L hL] at h
  simp only [List.cons_append, List.cons.injEq] at h
  omega
theorem b16_eq (v u : Int) (L : List Int) (hL : 4 ≤ L.length) : decide (b16 v L = b16 u L) = (v == u) := by
  by_cases h : v = u
  · subst h; simp
  · have : ¬ b16 v L = b16 u L := fun e => h (b16_inj v u L hL e)
    simp [h, this]
theorem b16_tail (v : Int) (L : List Int) (hL : 4 ≤ L.length) (k : Nat) : ((b16 v L).drop 4).take k = (L.drop 4).take k := by
  rw [b16_form v L hL]; rfl

/-- Two whole rows of one length. -/
theorem equal_whole (g h n : Nat) (l l' : List Int) (w : World) (b : Bool) (hr : Row w g l) (hr' : Row w h l') (hk : n ≤ 1048576) (ho : l.length = n) (hp : l'.length = n) (hb : decide (l = l') = b) :
    Calls Try.prog 12 #[.slice (some ⟨g, 0, none⟩) n n, .slice (some ⟨h, 0, none⟩) n n] w fun e w' => e = .returned (.bool b) ∧ ∃ q, w' = w.drewN q := by
  refine (equal_rows g h 0 0 n n n l l' w hr hr' hk (by omega) (by omega)).mono fun e w' ⟨h1, h2⟩ => ⟨?_, h2⟩
  rw [h1, List.drop_zero, List.drop_zero, List.take_of_length_le (by omega), List.take_of_length_le (by omega), hb]

set_option maxHeartbeats 1000000 in
theorem inj_main (x : Addr) (n c : Nat) (zs : List Int) (v u : Int) (w : World) (h0 : 0 ≤ v) (h1 : v ≤ 65535) (k0 : 0 ≤ u) (k1 : u ≤ 65535) (hbig : n ≤ 1048576) (h4 : 4 ≤ n) (hl : n ≤ zs.length) (hcell : ∀ i, i < n → w.cell? (x.add i) = some (.int .u8 (zs.getD i 0))) :
    Calls Try.prog 5 #[.slice (some x) n c, .int .u16 v, .int .u16 u] w fun e w' => e = .returned (.bool true) ∧ Below w.heap.size w w' := by
  go_enter Try.func5, Try.ntmps5
  go_wp2_with fail
  refine (bytes14 _ _ _ _ _ _).mono ?_
  rintro e w' ⟨rfl, hw'⟩
  obtain rfl : w = w' := hw'.symm
  clear hw'
  simp only [decide_eq_true hbig]
  go_wp2_with fail
  refine (clone_arg x n c zs _ hbig hl hcell).mono ?_
  rintro e w1 ⟨b0, L, rfl, hb0, hL, r0, g1⟩
  clear hcell
  go_wp2_with fail
  refine (clone_row b0 n L _ hbig r0 hL).mono ?_
  rintro e w2 ⟨b1, rfl, hb1, r1, g2⟩
  have lt0 := r0.lt
  replace r0 := r0.kept g2 (by simp)
  go_wp2_with fail
  refine (zzboth_any b1 n n v h0 h1 L _ r1 (by omega) h4 (Nat.le_refl _) hbig).mono ?_
  rintro e w3 ⟨rfl, r1, g3⟩
  replace r0 := r0.kept g3 (by simp; omega)
  go_wp2_with fail
  refine (clone_row b0 n L _ hbig r0 hL).mono ?_
  rintro e w4 ⟨b2, rfl, hb2, r2, g4⟩
  have lt1 := r1.lt
  replace r0 := r0.kept g4 (by simp)
  replace r1 := r1.kept g4 (by simp)
  go_wp2_with fail
  refine (zzboth_any b2 n n u k0 k1 L _ r2 (by omega) h4 (Nat.le_refl _) hbig).mono ?_
  rintro e w5 ⟨rfl, r2, g5⟩
  replace r0 := r0.kept g5 (by simp; omega)
  replace r1 := r1.kept g5 (by simp; omega)
  go_wp2_with fail
  refine (clone_row b0 n L _ hbig r0 hL).mono ?_
  rintro e w6 ⟨b3, rfl, hb3, r3, g6⟩
  have lt2 := r2.lt
  replace r0 := r0.kept g6 (by simp)
  replace r1 := r1.kept g6 (by simp)
  replace r2 := r2.kept g6 (by simp)
  have z1 := g1.size
  have z2 := g2.size
  have z3 := g3.size
  have z4 := g4.size
  have z5 := g5.size
  have z6 := g6.size
  go_wp2_with fail
  refine (zzboth_any b3 n n v h0 h1 L _ r3 (by omega) h4 (Nat.le_refl _) hbig).mono ?_
  rintro e w7 ⟨rfl, r3, g7⟩
  replace r0 := r0.kept g7 (by simp; omega)
  replace r1 := r1.kept g7 (by simp; omega)
  replace r2 := r2.kept g7 (by simp; omega)
  go_wp2_with fail
  refine (zzboth_any b3 n n u k0 k1 (b16 v L) _ r3 (by rw [b16_length]; omega) h4 (Nat.le_refl _) hbig).mono ?_
  rintro e w8 ⟨rfl, r3, g8⟩
  replace r0 := r0.kept g8 (by simp; omega)
  replace r1 := r1.kept g8 (by simp; omega)
  replace r2 := r2.kept g8 (by simp; omega)
  rw [b16_over v u L (by omega)] at r3
  have z7 := g7.size
  have bel : Below w.heap.size w w8 :=
    (((((((Below.refl _ w).grown g1 (Nat.le_refl _) (by simp)).grown g2 (by omega) (by simp)).grown g3 (by omega) (by intro k hk; cases hk; omega)).grown g4 (by omega) (by simp)).grown g5 (by omega) (by intro k hk; cases hk; omega)).grown g6 (by omega) (by simp)).grown g7 (by omega) (by intro k hk; cases hk; omega) |>.grown g8 (by omega) (by intro k hk; cases hk; omega)
  clear g1 g2 g3 g4 g5 g6 g7 g8 z1 z2 z3 z4 z5 z6 z7 hb0 hb1 hb2 hb3 lt0 lt1 lt2
  go_wp2_with fail
  refine (equal_whole b3 b2 n _ _ _ true r3 r2 hbig (by rw [b16_length]; exact hL) (by rw [b16_length]; exact hL) (by simp)).mono ?_
  rintro e w9 ⟨rfl, q9, hw9⟩
  have bel9 : Below w.heap.size w w9 := by rw [hw9]; exact below_drewN bel q9
  have s0 : Row w9 b0 L := by rw [hw9]; exact r0
  have s1 : Row w9 b1 (b16 v L) := by rw [hw9]; exact r1
  have s2 : Row w9 b2 (b16 u L) := by rw [hw9]; exact r2
  clear hw9 r0 r1 r2 r3 bel
  go_wp2_with fail
  refine (equal_whole b1 b2 n _ _ _ (v == u) s1 s2 hbig (by rw [b16_length]; exact hL) (by rw [b16_length]; exact hL) (b16_eq v u L (by omega))).mono ?_
  rintro e w10 ⟨rfl, q10, hw10⟩
  have bel : Below w.heap.size w w10 := by rw [hw10]; exact below_drewN bel9 q10
  have t0 : Row w10 b0 L := by rw [hw10]; exact s0
  have t2 : Row w10 b2 (b16 u L) := by rw [hw10]; exact s2
  clear hw10 s0 s1 s2 bel9
  obtain ⟨y0, y1, y2, y3⟩ := b16_get u L (by omega)
  have cy2 := t2.cell (j := 2) (by rw [b16_length]; omega)
  have cy3 := t2.cell (j := 3) (by rw [b16_length]; omega)
  rw [y2] at cy2
  rw [y3] at cy3
  clear y0 y1 y2 y3
  have i2 : (2 : Int) < (n : Int) := by omega
  have i3 : (3 : Int) < (n : Int) := by omega
  have i4 : (4 : Int) ≤ (n : Int) := by omega
  go_wp2_with fail
  by_cases e4 : n = 4
  · have E1 := fun q => equal_yes b2 b0 0 0 0 0 0 (b16 u L) L (w10.drewN q) t2 t0 (by omega) (by omega) (by omega) rfl
    have H1 : Hid _ := E1
    clear E1
    go_quiet ((go_at_call 12; with_reducible exact Calls.quiet_of (H1.out _)))
    go_wp2
    go_ret
    exact ⟨rfl, below_drewN bel _⟩
  · have E1 := fun q => equal_yes b2 b0 4 4 (n - 4) (n - 4) (n - 4) (b16 u L) L (w10.drewN q) t2 t0 (by omega) (by rw [b16_length]; omega) (by omega) (b16_tail u L (by omega) _)
    have H1 : Hid _ := E1
    clear E1
    go_quiet ((go_at_call 12; with_reducible exact Calls.quiet_of (H1.out _)))
    go_wp2
    go_ret
    exact ⟨rfl, below_drewN bel _⟩

end Go.Proofs.Qxb6616779a

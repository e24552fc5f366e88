import Derived.Test.Qxb6616779aRowsOf
namespace Go.Proofs.Qxb6616779a
open Go.RowKit

theorem info5 : (Try.prog.info? 5).map (fun i => (i.zero, i.size, i.bytes)) = some (some (.int .u8 0), 1, 1) := by kernel_rfl

theorem map_setD (zs : List Int) (k n : Nat) (hk : k < n) (hz : n ≤ zs.length) :
    ((zs.take k) ++ List.replicate (n - k) 0).set k (zs.getD k 0) = (zs.take (k + 1)) ++ List.replicate (n - (k + 1)) 0 := by
  apply List.ext_getElem?
  intro j
  have hl : (zs.take k).length = k := by simp; omega
  have hl' : (zs.take (k + 1)).length = k + 1 := by simp; omega
  rw [List.getElem?_set]
  by_cases h : k = j
  · subst h
    rw [if_pos rfl, if_pos (by simp; omega), List.getElem?_append_left (by omega), List.getElem?_take_of_lt (by omega)]
    simp [show k < zs.length by omega]
  · rw [if_neg h]
    by_cases h2 : j < k
    · rw [List.getElem?_append_left (by omega), List.getElem?_append_left (by omega), List.getElem?_take_of_lt h2, List.getElem?_take_of_lt (by omega)]
    · rw [List.getElem?_append_right (by omega), List.getElem?_append_right (by omega), hl, hl', List.getElem?_replicate, List.getElem?_replicate]
      by_cases h3 : j < n
      · rw [if_pos (by omega), if_pos (by omega)]
      · rw [if_neg (by omega), if_neg (by omega)]

theorem row_made {w : World} {base g n : Nat} {l : List Int} (h : w.ownsRow base 5 1 (.slice (some ⟨g, 0, none⟩) n n) n (l.map (Value.int .u8))) : Row w g l := by
  rcases h.2 with ⟨h', _⟩ | ⟨g', cap', cur, h', _, hg, _, _, hcs, htake⟩
  · simp at h'
  · simp only [Value.slice.injEq, Option.some.injEq, Addr.mk.injEq, and_true, true_and] at h'
    obtain ⟨rfl, rfl⟩ := h'
    unfold Row
    rw [hg, ← htake, List.take_of_length_le (by simp; omega)]

theorem made_zero (n : Nat) : (madeCells #[Value.int .u8 0] n).toList = (List.replicate n (0 : Int)).map (Value.int .u8) := by
  rw [toList_madeCells_one]
  simp

theorem grown_new {w wr : World} {g j : Nat} {u : Value} (h : w.grownBy wr none) (hg : w.heap.size ≤ g) : w.grownBy (wr.setCell ⟨g, j, none⟩ u) none :=
  ⟨h.os, h.tape, h.output, by simpa using h.size, fun k hk _ => by rw [heap_setCell_other wr ⟨g, j, none⟩ k u (by simp; omega)]; exact h.block k hk (by simp)⟩

set_option maxHeartbeats 400000 in
/-- zzB1Clone of a slice that is not nil: a new row with the same bytes. -/
theorem clone_any (x : Addr) (n c : Nat) (zs : List Int) (w : World) (hn : n ≤ 1048576) (hl : n ≤ zs.length) (hcell : ∀ i, i < n → w.cell? (x.add i) = some (.int .u8 (zs.getD i 0))) :
    Calls Try.prog 7 #[.slice (some x) n c] w fun e w' => e = .returned (.slice (some ⟨w.heap.size, 0, none⟩) n n) ∧ Row w' w.heap.size (zs.take n) ∧ w.grownBy w' none := by
  have q22 : ∀ (w : World) (a : Option Addr) (n c n' c' : Nat), (binOp .eql 22 (.slice a n c) (.slice none n' c')).run Try.prog w = .ok (.bool a.isNone) w := fun w a n c n' c' => Lib.run_eql_slice_nil w _ _ a n c n' c' Try.underlying22
  obtain ⟨i0, hi, hz0, hz1, hz2⟩ := info_parts info5
  go_enter Try.func7, Try.ntmps7
  go_wp2_with (at_make; refine wpList_make_full _ rfl _ _ 22 rfl w.heap.size 5 i0 (.int .u8 0) 1 Try.underlying22 hi hz0 hz1 _ _ _ _ n rfl rfl rfl rfl (by rw [hz2]; omega) (by unfold maxLen; omega) (Nat.le_refl _) ?_)
  intro w1 hown hgrow
  rw [made_zero] at hown
  have hr1 := row_made hown
  clear hown hi hz0 hz1 hz2
  go_wp2
  go_loopw [4] (fun i wr => ∃ k : Nat, k ≤ n ∧ i = .int .i64 k ∧ Row wr w.heap.size ((zs.take k) ++ List.replicate (n - k) 0) ∧ w.grownBy wr none) (fun i _ => n - (intOf i).toNat)
  case atStart => exact ⟨0, Nat.zero_le _, rfl, by simpa using hr1, hgrow⟩
  case round =>
    obtain ⟨k, hk, rfl, hrow, hgr⟩ := hrel
    by_cases hlt : k < n
    · have hcx : wr.cell? (x.add k) = some (.int .u8 (zs.getD k 0)) := hgr.cell (hcell k hlt) (by simp)
      have hlen : ((zs.take k) ++ List.replicate (n - k) (0 : Int)).length = n := by simp; omega
      have hcd := hrow.cell (j := k) (by omega)
      have hfd := hrow.free k
      go_wp2
      go_roundw
      case rel =>
        refine ⟨k + 1, by omega, by go_num, ?_, grown_new hgr (Nat.le_refl _)⟩
        have := hrow.set k (zs.getD k 0)
        rw [map_setD zs k n hlt hl] at this
        simpa using this
      case measure => simp [intOf]; omega
    · go_wp2
      go_ret
      refine ⟨rfl, ?_, hgr⟩
      obtain rfl : k = n := by omega
      simpa using hrow

/-! ### zzB1Equal -/
theorem eq_take {xs ys : List Int} {n : Nat} (hx : xs.length = n) (hy : ys.length = n) : (xs = ys) ↔ xs.take n = ys.take n := by
  rw [List.take_of_length_le (by omega), List.take_of_length_le (by omega)]
theorem eq_step {xs ys : List Int} {k : Nat} (hx : k < xs.length) (hy : k < ys.length) (h : (xs[k] != ys[k]) = false) (ht : xs.take k = ys.take k) : xs.take (k + 1) = ys.take (k + 1) := by
  have h' : xs[k] = ys[k] := by simpa using h
  rw [List.take_succ_eq_append_getElem hx, List.take_succ_eq_append_getElem hy, ht, h']
theorem ne_step {xs ys : List Int} {k : Nat} (hx : k < xs.length) (hy : k < ys.length) (h : (xs[k] != ys[k]) = true) : decide (xs = ys) = false := by
  refine decide_eq_false ?_
  rintro rfl
  simp at h

set_option maxHeartbeats 400000 in
theorem equal_len (x y : Addr) (n m c d : Nat) (w : World) (h : n ≠ m) :
    Calls Try.prog 12 #[.slice (some x) n c, .slice (some y) m d] w fun e w' => e = .returned (.bool false) ∧ ∃ q, w' = w.drewN q := by
  have hne : ((n : Int) != (m : Int)) = true := by simp; omega
  go_enter Try.func12, Try.ntmps12
  go_wp2
  go_ret
  exact ⟨rfl, 0, rfl⟩

set_option maxHeartbeats 400000 in
theorem equal_any (x y : Addr) (n c d : Nat) (xs ys : List Int) (w : World) (hn : n ≤ 1048576) (hx : xs.length = n) (hy : ys.length = n)
    (cx : ∀ i, i < n → w.cell? (x.add i) = some (.int .u8 (xs.getD i 0))) (cy : ∀ i, i < n → w.cell? (y.add i) = some (.int .u8 (ys.getD i 0))) :
    Calls Try.prog 12 #[.slice (some x) n c, .slice (some y) n d] w fun e w' => e = .returned (.bool (decide (xs = ys))) ∧ ∃ q, w' = w.drewN q := by
  have hne : ((n : Int) != (n : Int)) = false := by simp
  go_enter Try.func12, Try.ntmps12
  go_wp2
  go_loopw [5] (fun i wr => ∃ k : Nat, k ≤ n ∧ i = .int .i64 k ∧ xs.take k = ys.take k ∧ ∃ q, wr = w.drewN q) (fun i _ => n - (intOf i).toNat)
  case atStart => exact ⟨0, Nat.zero_le _, rfl, by simp, 0, rfl⟩
  case round =>
    obtain ⟨k, hk, rfl, htk, q, rfl⟩ := hrel
    by_cases hlt : k < n
    · have HT := (show Hid (xs.take k = ys.take k) from htk)
      clear htk
      have hcx := cx k hlt
      have hcy := cy k hlt
      have hl1 : ((k : Nat) : Int) < (n : Int) := by omega
      go_wp2
      go_quiet (fail)
      go_wp2
      · go_ret
        exact ⟨by rw [ne_step (k := k) (by omega) (by omega) ‹_›]; rfl, _, World.drewN_drewN _ _ _⟩
      · go_roundw
        case rel => exact ⟨k + 1, by omega, by go_num, eq_step (k := k) (by omega) (by omega) ‹_› HT.out, _, rfl⟩
        case measure => simp [intOf]; omega
    · go_wp2
      go_ret
      refine ⟨?_, q, rfl⟩
      obtain rfl : k = n := by omega
      have : xs = ys := (eq_take hx hy).2 htk
      simp [this]

theorem row_drop {w : World} {g o k : Nat} {l : List Int} (hr : Row w g l) (ho : o + k ≤ l.length) (i : Nat) (hi : i < k) :
    w.cell? ((⟨g, o, none⟩ : Addr).add i) = some (.int .u8 (((l.drop o).take k).getD i 0)) := by
  rw [Addr.add_lit, hr.cell (by omega)]
  simp [List.getD, hi]

/-- zzB1Clone of a row: the new row's block is some new one. -/
theorem clone_row (g n : Nat) (l : List Int) (w : World) (hbig : n ≤ 1048576) (hr : Row w g l) (hl : l.length = n) :
    Calls Try.prog 7 #[.slice (some ⟨g, 0, none⟩) n n] w fun e w' => ∃ b, e = .returned (.slice (some ⟨b, 0, none⟩) n n) ∧ w.heap.size ≤ b ∧ Row w' b l ∧ w.grownBy w' none := by
  refine (clone_any ⟨g, 0, none⟩ n n l w hbig (by omega) (fun i hi => ?_)).mono ?_
  · rw [Addr.add_lit, Nat.zero_add, hr.cell (by omega)]
  · rintro e w' ⟨rfl, h1, h2⟩
    rw [List.take_of_length_le (by omega)] at h1
    exact ⟨_, rfl, Nat.le_refl _, h1, h2⟩
/-- .. of a slice that came in. -/
theorem clone_arg (x : Addr) (n c : Nat) (zs : List Int) (w : World) (hn : n ≤ 1048576) (hl : n ≤ zs.length) (hcell : ∀ i, i < n → w.cell? (x.add i) = some (.int .u8 (zs.getD i 0))) :
    Calls Try.prog 7 #[.slice (some x) n c] w fun e w' => ∃ b l, e = .returned (.slice (some ⟨b, 0, none⟩) n n) ∧ w.heap.size ≤ b ∧ l.length = n ∧ Row w' b l ∧ w.grownBy w' none := by
  refine (clone_any x n c zs w hn hl hcell).mono ?_
  rintro e w' ⟨rfl, h1, h2⟩
  exact ⟨_, zs.take n, rfl, Nat.le_refl _, by simp; omega, h1, h2⟩

/-- Two cuts of two rows, of one length: are their bytes the same? -/
theorem equal_rows (g h o p k c d : Nat) (l l' : List Int) (w : World) (hr : Row w g l) (hr' : Row w h l') (hk : k ≤ 1048576) (ho : o + k ≤ l.length) (hp : p + k ≤ l'.length) :
    Calls Try.prog 12 #[.slice (some ⟨g, o, none⟩) k c, .slice (some ⟨h, p, none⟩) k d] w fun e w' => e = .returned (.bool (decide ((l.drop o).take k = (l'.drop p).take k))) ∧ ∃ q, w' = w.drewN q :=
  equal_any _ _ k c d ((l.drop o).take k) ((l'.drop p).take k) w hk (by simp; omega) (by simp; omega) (row_drop hr ho) (row_drop hr' hp)
theorem equal_yes (g h o p k c d : Nat) (l l' : List Int) (w : World) (hr : Row w g l) (hr' : Row w h l') (hk : k ≤ 1048576) (ho : o + k ≤ l.length) (hp : p + k ≤ l'.length)
    (he : (l.drop o).take k = (l'.drop p).take k) :
    Calls Try.prog 12 #[.slice (some ⟨g, o, none⟩) k c, .slice (some ⟨h, p, none⟩) k d] w fun e w' => e = .returned (.bool true) ∧ ∃ q, w' = w.drewN q := by
  refine (equal_rows g h o p k c d l l' w hr hr' hk ho hp).mono fun e w' ⟨h1, h2⟩ => ⟨?_, h2⟩
  rw [h1, decide_eq_true he]

/-! ### the bound on the lengths: three functions of one make -/
set_option maxHeartbeats 400000 in
theorem bytes13 (a : Option Addr) (n c : Nat) (v : Int) (w : World) :
    Calls Try.prog 13 #[.slice a n c, .int .u16 v] w fun e w' => e = .returned (.bool (decide (n ≤ 1048576))) ∧ w' = w := by
  by_cases h : n ≤ 1048576
  · go_enter Try.func13, Try.ntmps13
    go_wp2
    go_ret
    exact ⟨by simp [h], rfl⟩
  · go_enter Try.func13, Try.ntmps13
    go_wp2
    go_ret
    exact ⟨by simp [h], rfl⟩
set_option maxHeartbeats 400000 in
theorem bytes14 (a : Option Addr) (n c : Nat) (v u : Int) (w : World) :
    Calls Try.prog 14 #[.slice a n c, .int .u16 v, .int .u16 u] w fun e w' => e = .returned (.bool (decide (n ≤ 1048576))) ∧ w' = w := by
  by_cases h : n ≤ 1048576
  · go_enter Try.func14, Try.ntmps14
    go_wp2
    go_ret
    exact ⟨by simp [h], rfl⟩
  · go_enter Try.func14, Try.ntmps14
    go_wp2
    go_ret
    exact ⟨by simp [h], rfl⟩
set_option maxHeartbeats 400000 in
theorem bytes6 (a : Option Addr) (n c : Nat) (w : World) :
    Calls Try.prog 6 #[.slice a n c] w fun e w' => e = .returned (.bool (decide (n ≤ 1048576))) ∧ w' = w := by
  by_cases h : n ≤ 1048576
  · go_enter Try.func6, Try.ntmps6
    go_wp2
    go_ret
    exact ⟨by simp [h], rfl⟩
  · go_enter Try.func6, Try.ntmps6
    go_wp2
    go_ret
    exact ⟨by simp [h], rfl⟩

/-! ### what both16 writes -/
theorem b16_length (v : Int) (l : List Int) : (b16 v l).length = l.length := by simp [b16]
theorem b16_form (v : Int) (l : List Int) (hl : 4 ≤ l.length) : b16 v l = [v % 256, v / 256, v / 256, v % 256] ++ l.drop 4 := by
  match l, hl with
  | a :: b :: c :: d :: r, _ => simp [b16]
theorem b16_get (v : Int) (l : List Int) (hl : 4 ≤ l.length) : (b16 v l).getD 0 0 = v % 256 ∧ (b16 v l).getD 1 0 = v / 256 ∧ (b16 v l).getD 2 0 = v / 256 ∧ (b16 v l).getD 3 0 = v % 256 := by
  rw [b16_form v l hl]
  exact ⟨rfl, rfl, rfl, rfl⟩

end Go.Proofs.Qxb6616779a

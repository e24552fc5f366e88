import Derived.Test.Qxb6618988aIs
import Derived.Deep.Cut
namespace Go.Proofs.Qxb6618988a
open Go.RowKit

set_option maxHeartbeats 400000 in
theorem msg_any (v s n t : Int) (x o : ByteArray) (w : World) :
    Calls Try.prog 6 #[.int .u64 s, .int .u64 v, .string x, .int .i64 n, .string o, .int .u64 t] w fun e w' => e = .returned (.agg (msgOf s v n t x o)) ∧ Grown w w' ∧ Below w.heap.size w w' := by
  have HB : Hid _ := built37 s v n t x o
  go_enter Try.func6, Try.ntmps6
  go_upto_region 1 with fail
  generalize hZ : (#[.int .u8 0, .string ⟨#[]⟩, .int .u64 0, .string ⟨#[]⟩, .int .u64 0, .string ⟨#[]⟩, .int .u64 0, .int .i64 0, .slice none 0 0, .slice none 0 0, .bool false, .int .u64 0, .int .i64 0, .bool false, .int .u64 0, .int .u64 0, .int .u64 0, .string ⟨#[]⟩, .bool false, .int .u64 0, .int .u64 0, .bool false, .bool false, .int .i64 0, .bool false, .int .u64 0, .bool false, .bool false, .int .i64 0, .int .u64 0, .int .i64 0, .bool false, .bool false] : Array Value) = Z
  have z33 : Z.size = 33 := by rw [← hZ]; rfl
  clear hZ
  refine wp_region_lit ?_
  refine wpList_plain rfl fun K hK => ?_
  go_simp
  refine hK _ _ ?_
  clear hK K
  refine wpList_plain rfl fun K hK => ?_
  go_simp
  refine hK _ _ ?_
  clear hK K
  refine wpList_plain rfl fun K hK => ?_
  go_simp
  refine hK _ _ ?_
  clear hK K
  refine wpList_plain rfl fun K hK => ?_
  go_simp
  refine hK _ _ ?_
  clear hK K
  refine wpList_plain rfl fun K hK => ?_
  go_simp
  refine hK _ _ ?_
  clear hK K
  refine wpList_plain rfl fun K hK => ?_
  go_simp
  refine hK _ _ ?_
  clear hK K
  refine wpList_plain rfl fun K hK => ?_
  go_simp
  refine hK _ _ ?_
  clear hK K
  refine list_built rfl 37 _ rfl (msgOf s v n t x o) ?_ ?_
  · simp only [List.map_toArray, List.map_cons, List.map_nil, Act.eval, Array.getD_eq_getD_getElem?, List.getElem?_toArray, List.getElem?_cons_succ, List.getElem?_cons_zero, Option.getD_some]
    with_reducible exact HB.out
  refine list_store_new rfl 37 _ _ rfl Z (msgOf s v n t x o) rfl rfl size37 z33 (msgOf_is s v n t x o).one ?_
  have hM := msgOf_is s v n t x o
  clear HB z33
  generalize eM : msgOf s v n t x o = M at hM ⊢
  have EM : Hid _ := eM
  clear eM
  go_wp2
  have hi : (Try.prog.info? 37).map (·.size) = some M.size := by rw [hM.size]; exact size37
  refine bodyPost_ret (v := .agg M) (results_cell_row rfl _ _ w.heap.size 37 M (0, 0) _ rfl (heap_alloc_new w _) Try.underlying37 rfl hi) rfl ?_
  exact ⟨by rw [EM.out], (Grown.refl _).alloc _ _, (Below.refl _ _).alloc (Nat.le_refl _) _⟩

theorem msg_abs (v s n t : Int) (x o : ByteArray) (w : World) :
    Calls Try.prog 6 #[.int .u64 s, .int .u64 v, .string x, .int .i64 n, .string o, .int .u64 t] w fun e w' => ∃ M, e = .returned (.agg M) ∧ Msg M s v ∧ Grown w w' ∧ Below w.heap.size w w' := by
  refine (msg_any v s n t x o w).mono ?_
  rintro e w' ⟨rfl, h1, h2⟩
  exact ⟨_, rfl, msgOf_is s v n t x o, h1, h2⟩

set_option maxHeartbeats 400000 in
theorem bytes4_yes (a b c d : Int) (x y : ByteArray) (w : World) (h : x.size + y.size ≤ 1048576) :
    Calls Try.prog 4 #[.int .u64 a, .int .u64 b, .string x, .int .u64 c, .int .u64 d, .string y] w fun e w' => e = .returned (.bool true) ∧ w' = w := by
  go_enter Try.func4, Try.ntmps4
  go_wp2
  go_ret
  exact ⟨rfl, rfl⟩
set_option maxHeartbeats 400000 in
theorem bytes4_no (a b c d : Int) (x y : ByteArray) (w : World) (hx : x.size ≤ maxLen) (hy : y.size ≤ maxLen) (h : ¬ x.size + y.size ≤ 1048576) :
    Calls Try.prog 4 #[.int .u64 a, .int .u64 b, .string x, .int .u64 c, .int .u64 d, .string y] w fun e w' => e = .returned (.bool false) ∧ w' = w := by
  unfold maxLen at hx hy
  by_cases h1 : x.size ≤ 1048576
  · by_cases h2 : y.size ≤ 1048576
    · go_enter Try.func4, Try.ntmps4
      go_wp2
      go_ret
      exact ⟨rfl, rfl⟩
    · go_enter Try.func4, Try.ntmps4
      go_wp2
      go_ret
      exact ⟨rfl, rfl⟩
  · go_enter Try.func4, Try.ntmps4
    go_wp2
    go_ret
    exact ⟨rfl, rfl⟩
end Go.Proofs.Qxb6618988a

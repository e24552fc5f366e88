import Derived.Test.Qxb6618988aRows
import Derived.WalkKit
import Derived.ProofKit
import Derived.Below
import Derived.BigQuiet
import Derived.Deep.QuietTactic
import Derived.WalkSmall
import Derived.Laws.Tables
import Derived.Deep.WholeRow
namespace Go.Proofs.Qxb6618988a
open Go.RowKit

/-- The cells of a message that carries series 's' and version 'v'. -/
structure Msg (M : Array Value) (s v : Int) : Prop where
  size : M.size = 33
  ver : M[4]? = some (.int .u64 v)
  ser : M[6]? = some (.int .u64 s)
  one : M.all (·.oneCell') = true

/-- Do the two versions agree? -/
def sameB (s' s v' v : Int) : Bool := s' == s && v' == v
theorem grown_then {a b c : World} (h : Grown a b) (k : Grown b c) : Grown a c :=
  ⟨World.keptBut_trans h.1 k.1, fun x => (k.2.1 x).trans (h.2.1 x), Nat.le_trans h.2.2 k.2.2⟩

theorem size37 : (Try.prog.info? 37).map (·.size) = some 33 := by kernel_rfl

set_option maxHeartbeats 400000 in
theorem is_any (M : Array Value) (s v s' v' : Int) (b : Nat) (w : World) (hM : Msg M s v)
    (c0 : w.cell? ⟨b, 0, none⟩ = some (.int .u64 v')) (c2 : w.cell? ⟨b, 2, none⟩ = some (.int .u64 s')) :
    Calls Try.prog 8 #[.pointer (some ⟨b, 0, none⟩), .agg M] w fun e w' => e = .returned (.bool (sameB s' s v' v)) ∧ Grown w w' ∧ Below w.heap.size w w' := by
  have hb : b < w.heap.size := World.block_lt_of_cell? w ⟨b, 0, none⟩ c0
  have m := hM.size
  go_enter Try.func8, Try.ntmps8
  go_wp2
  have d4 : (w.alloc (.cells M 37)).cell? ⟨w.heap.size, 4, none⟩ = some (.int .u64 v) := by rw [World.cell?_alloc_at _ _ _ _ rfl]; exact hM.ver
  have d6 : (w.alloc (.cells M 37)).cell? ⟨w.heap.size, 6, none⟩ = some (.int .u64 s) := by rw [World.cell?_alloc_at _ _ _ _ rfl]; exact hM.ser
  have e0 : (w.alloc (.cells M 37)).cell? ⟨b, 0, none⟩ = some (.int .u64 v') := by rw [World.cell?_alloc_past _ _ _ hb]; exact c0
  have e2 : (w.alloc (.cells M 37)).cell? ⟨b, 2, none⟩ = some (.int .u64 s') := by rw [World.cell?_alloc_past _ _ _ hb]; exact c2
  have hg : Grown w (w.alloc (.cells M 37)) := (Grown.refl _).alloc _ _
  have hl : Below w.heap.size w (w.alloc (.cells M 37)) := (Below.refl _ _).alloc (Nat.le_refl _) _
  clear c0 c2 m
  generalize w.alloc (.cells M 37) = w1 at d4 d6 e0 e2 hg hl ⊢
  by_cases hs : (s' == s) = true
  · go_quiet (fail)
    go_wp2
    go_ret
    refine ⟨?_, hg, below_drewN hl _⟩
    show Ending.returned (.bool (v' == v)) = _
    rw [sameB, hs, Bool.true_and]
  · have hs' : (s' == s) = false := by simpa using hs
    clear hs
    go_quiet (fail)
    go_wp2
    go_ret
    refine ⟨?_, hg, below_drewN hl _⟩
    show Ending.returned (.bool false) = _
    rw [sameB, hs', Bool.false_and]

set_option maxHeartbeats 400000 in
theorem call_any (M : Array Value) (s v s' v' : Int) (b : Nat) (w : World) (hM : Msg M s v)
    (c0 : w.cell? ⟨b, 0, none⟩ = some (.int .u64 v')) (c2 : w.cell? ⟨b, 2, none⟩ = some (.int .u64 s')) :
    Calls Try.prog 7 #[.pointer (some ⟨b, 0, none⟩), .agg M] w fun e w' => e = .returned (.bool (sameB s' s v' v)) ∧ Grown w w' ∧ Below w.heap.size w w' := by
  have hb : b < w.heap.size := World.block_lt_of_cell? w ⟨b, 0, none⟩ c0
  have m := hM.size
  have hi : (Try.prog.info? 37).map (·.size) = some M.size := by rw [m]; exact size37
  have hrow := heap_alloc_new w (.cells M 37)
  have HI : Hid _ := hi
  have HR : Hid _ := hrow
  clear hi hrow
  go_enter Try.func7, Try.ntmps7
  go_wp2_with (refine wpList_load_row rfl 37 _ rfl w.heap.size rfl 37 M (0, 0) _ HR.out Try.underlying37 rfl HI.out ?_)
  refine (is_any M s v s' v' b _ hM (by rw [World.cell?_alloc_past _ _ _ hb]; exact c0) (by rw [World.cell?_alloc_past _ _ _ hb]; exact c2)).mono ?_
  rintro e w2 ⟨rfl, hg, hl⟩
  go_wp2
  go_ret
  exact ⟨rfl, grown_then ((Grown.refl _).alloc _ _) hg, ((Below.refl _ _).alloc (Nat.le_refl _) _).trans (hl.mono (by simp))⟩

set_option maxHeartbeats 400000 in
theorem snap_any (v s n : Int) (x : ByteArray) (w : World) :
    Calls Try.prog 5 #[.int .u64 v, .string x, .int .u64 s, .int .i64 n] w fun e w' => ∃ b, e = .returned (.pointer (some ⟨b, 0, none⟩)) ∧ w.heap.size ≤ b ∧ w'.cell? ⟨b, 0, none⟩ = some (.int .u64 v) ∧ w'.cell? ⟨b, 2, none⟩ = some (.int .u64 s) ∧ Grown w w' ∧ Below w.heap.size w w' := by
  go_enter Try.func5, Try.ntmps5
  go_wp2
  go_ret
  refine ⟨w.heap.size, rfl, Nat.le_refl _, ?_, ?_, (Grown.refl _).alloc _ _, (Below.refl _ _).alloc (Nat.le_refl _) _⟩
  · rw [World.cell?_alloc_at _ _ _ _ rfl]; rfl
  · rw [World.cell?_alloc_at _ _ _ _ rfl]; rfl

/-! ### the laws of whole structs -/
section
variable {P : Program} {ops : Array Oper} {rest : List Oper} {o : Oper} {a : Act} {w : World} {Q : Exit → Act → World → Prop}
theorem list_built (hg : o.guard = none) (t : TypeId) (parts : Array (Nat × Operand)) (ho : o.op = .build t parts) (cells : Array Value)
    (hf : P.built t (parts.map fun (i, x) => (i, a.eval x)).toList = some cells) (h : wpList P ops Q rest (a.put o.dst (.agg cells)) w) : wpList P ops Q (o :: rest) a w :=
  wpList_build hg t parts ho (by rw [hf]; rfl) (by rw [hf]; exact h)
theorem list_store_new (hg : o.guard = none) (t : TypeId) (x y : Operand) (ho : o.op = .store t x y) (old cells : Array Value) (hx : a.eval x = .pointer (some ⟨w.heap.size, 0, none⟩)) (hy : a.eval y = .agg cells)
    (hi : (P.info? t).map (·.size) = some cells.size) (hold : old.size = cells.size) (h1 : cells.all (·.oneCell') = true)
    (h : wpList P ops Q rest (a.put o.dst undef) (w.alloc (.cells cells t))) : wpList P ops Q (o :: rest) a (w.alloc (.cells old t)) :=
  wpList_store_row hg t x y ho w.heap.size cells hx hy t old (heap_alloc_new w _) hi hold h1 (by rw [World.setRow_alloc_new]; exact h)
end

/-- The message that zzMessage builds. -/
def msgOf (s v n t : Int) (x o : ByteArray) : Array Value :=
  #[.int .u8 0, .string ⟨#[]⟩, .int .u64 0, .string o, .int .u64 v, .string x, .int .u64 s, .int .i64 n, .slice none 0 0, .slice none 0 0, .bool false, .int .u64 t, .int .i64 0, .bool false, .int .u64 0, .int .u64 0, .int .u64 0, .string ⟨#[]⟩, .bool false, .int .u64 0, .int .u64 0, .bool false, .bool false, .int .i64 0, .bool false, .int .u64 0, .bool false, .bool false, .int .i64 0, .int .u64 0, .int .i64 0, .bool false, .bool false]
theorem msgOf_is (s v n t : Int) (x o : ByteArray) : Msg (msgOf s v n t x o) s v := ⟨rfl, rfl, rfl, by kernel_rfl⟩
theorem built37 (s v n t : Int) (x o : ByteArray) : Try.prog.built 37 [(2, .string o), (3, .agg #[.int .u64 v, .string x]), (4, .int .u64 s), (5, .int .i64 n), (7, .int .u64 t)] = some (msgOf s v n t x o) := by kernel_rfl

end Go.Proofs.Qxb6618988a

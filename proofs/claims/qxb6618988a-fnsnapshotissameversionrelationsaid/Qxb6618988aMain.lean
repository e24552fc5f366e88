import Derived.Test.Qxb6618988aMsg
import Derived.Deep.Cut
namespace Go.Proofs.Qxb6618988a
open Go.RowKit

theorem load_want {P : Program} {ops : Array Oper} {rest : List Oper} {o : Oper} {a : Act} {w : World} {Q : Exit → Act → World → Prop} (hw : Region.wanted o (yielded ops a.tmps) = true) (ty : TypeId) (x : Operand) (ho : o.op = .load ty x)
    (g : Nat) (hx : a.eval x = .pointer (some ⟨g, 0, none⟩)) (t : TypeId) (cs : Array Value) (fr : Nat × Nat) (d : TypeDesc) (hg : w.heap[g]? = some (.cells cs t fr))
    (hu : P.underlying ty = some d) (hd : (match d with | .struct _ | .array _ _ => true | _ => false) = true) (hi : (P.info? ty).map (·.size) = some cs.size)
    (h : wpList P ops Q rest (a.put o.dst (.agg cs)) w) : wpList P ops Q (o :: rest) a w :=
  BigFrame.wpList_want hw fun _ hK => wp_load_row ty x ho g hx t cs fr d hg hu hd hi (hK _ _ h)

/-- A message lies at block 'g'. -/
def At (w : World) (g : Nat) (M : Array Value) : Prop := w.heap[g]? = some (.cells M 37 (0, 0))
theorem At.lt {w : World} {g : Nat} {M : Array Value} (h : At w g M) : g < w.heap.size := (Array.getElem?_eq_some_iff.1 h).1
theorem At.below {w w' : World} {g : Nat} {M : Array Value} (h : At w g M) (hb : Below w.heap.size w w') : At w' g M := (hb.block g h.lt).trans h
/-- A snapshot lies at block 'b'. -/
structure Snap (w : World) (b : Nat) (s v : Int) : Prop where
  ver : w.cell? ⟨b, 0, none⟩ = some (.int .u64 v)
  ser : w.cell? ⟨b, 2, none⟩ = some (.int .u64 s)
theorem Snap.lt {w : World} {b : Nat} {s v : Int} (h : Snap w b s v) : b < w.heap.size := World.block_lt_of_cell? w _ h.ver
theorem Snap.below {w w' : World} {b : Nat} {s v : Int} (h : Snap w b s v) (hb : Below w.heap.size w w') : Snap w' b s v :=
  ⟨(hb.cell (p := ⟨b, 0, none⟩) h.lt).trans h.ver, (hb.cell (p := ⟨b, 2, none⟩) h.lt).trans h.ser⟩
theorem fits {M : Array Value} {s v : Int} (h : Msg M s v) : (Try.prog.info? 37).map (·.size) = some M.size := by rw [h.size]; exact size37

theorem call_is (M : Array Value) (s v s' v' : Int) (b : Nat) (w : World) (r : Bool) (hM : Msg M s v) (S : Snap w b s' v') (hr : sameB s' s v' v = r) :
    Calls Try.prog 7 #[.pointer (some ⟨b, 0, none⟩), .agg M] w fun e w' => e = .returned (.bool r) ∧ Grown w w' ∧ Below w.heap.size w w' := by
  have h := call_any M s v s' v' b w hM S.ver S.ser
  rw [hr] at h
  exact h
theorem same_self (s v : Int) : sameB s s v v = true := by simp [sameB]
theorem same_back (s1 s2 v1 v2 : Int) : sameB s2 s1 v2 v1 = (s1 == s2 && v1 == v2) := by
  rw [sameB, BEq.comm (a := s2), BEq.comm (a := v2)]
theorem same_ver (s v1 v2 : Int) : sameB s s v1 v2 = (v1 == v2) := by simp [sameB]
theorem same_ser (s1 s2 v : Int) : sameB s1 s2 v v = (s1 == s2) := by simp [sameB]

set_option maxHeartbeats 4000000 in
theorem rel_main (s1 v1 s2 v2 : Int) (x1 x2 : ByteArray) (w : World) (hz : x1.size + x2.size ≤ 1048576) (h1 : x1.size ≤ 524288) (h2 : x2.size ≤ 524288) :
    Calls Try.prog 3 #[.int .u64 s1, .int .u64 v1, .string x1, .int .u64 s2, .int .u64 v2, .string x2] w fun e w' => e = .returned (.bool true) ∧ Grown w w' := by
  go_enter Try.func3, Try.ntmps3
  go_wp2_with fail
  refine (bytes4_yes _ _ _ _ _ _ w hz).mono ?_
  rintro e w' ⟨rfl, hw'⟩
  obtain rfl : w = w' := hw'.symm
  clear hw'
  go_wp2_with fail
  refine (snap_any v1 s1 x1.size x1 w).mono ?_
  rintro e w1 ⟨b1, rfl, _, p1, q1, G, B⟩
  have S1 : Snap w1 b1 s1 v1 := ⟨p1, q1⟩
  clear p1 q1 B
  go_wp2_with fail
  refine (snap_any v2 s2 x2.size x2 w1).mono ?_
  rintro e w2 ⟨b2, rfl, _, p2, q2, G2, B⟩
  have S2 : Snap w2 b2 s2 v2 := ⟨p2, q2⟩
  replace S1 := S1.below B
  replace G := grown_then G G2
  clear p2 q2 B G2
  go_wp2_with fail
  refine (msg_abs v1 s1 x1.size 0 x1 ⟨#[]⟩ w2).mono ?_
  rintro e w3 ⟨M1, rfl, hM1, G3, B⟩
  replace S1 := S1.below B
  replace S2 := S2.below B
  replace G := grown_then G G3
  clear B G3
  go_wp2_with (refine list_store_new rfl 37 _ _ rfl _ M1 rfl rfl (fits hM1) (by rw [hM1.size]; rfl) hM1.one ?_)
  have B1 : Below w3.heap.size w3 (w3.alloc (.cells M1 37)) := (Below.refl _ _).alloc (Nat.le_refl _) _
  have R1 : At (w3.alloc (.cells M1 37)) w3.heap.size M1 := heap_alloc_new w3 _
  replace S1 := S1.below B1
  replace S2 := S2.below B1
  replace G : Grown w (w3.alloc (.cells M1 37)) := G.alloc _ _
  clear B1
  generalize w3.alloc (.cells M1 37) = w4 at R1 S1 S2 G ⊢
  generalize w3.heap.size = r1 at R1 ⊢
  refine (msg_abs v2 s2 x2.size 0 x2 ⟨#[]⟩ w4).mono ?_
  rintro e w5 ⟨M2, rfl, hM2, Gw5, B⟩
  replace S1 := S1.below B
  replace S2 := S2.below B
  replace R1 := R1.below B
  replace G := grown_then G Gw5
  clear B Gw5
  go_wp2_with (refine list_store_new rfl 37 _ _ rfl _ M2 rfl rfl (fits hM2) (by rw [hM2.size]; rfl) hM2.one ?_)
  have B2 : Below w5.heap.size w5 (w5.alloc (.cells M2 37)) := (Below.refl _ _).alloc (Nat.le_refl _) _
  have R2 : At (w5.alloc (.cells M2 37)) w5.heap.size M2 := heap_alloc_new w5 _
  replace S1 := S1.below B2
  replace S2 := S2.below B2
  replace R1 := R1.below B2
  replace G : Grown w (w5.alloc (.cells M2 37)) := G.alloc _ _
  clear B2
  generalize w5.alloc (.cells M2 37) = w6 at R1 R2 S1 S2 G ⊢
  generalize w5.heap.size = r2 at R2 ⊢
  refine (msg_abs v2 s1 x2.size 0 x2 ⟨#[]⟩ w6).mono ?_
  rintro e w7 ⟨MX, rfl, hMX, Gw7, B⟩
  replace S1 := S1.below B
  replace S2 := S2.below B
  replace R1 := R1.below B
  replace R2 := R2.below B
  replace G := grown_then G Gw7
  clear B Gw7
  go_wp2_with (refine list_store_new rfl 37 _ _ rfl _ MX rfl rfl (fits hMX) (by rw [hMX.size]; rfl) hMX.one ?_)
  have B3 : Below w7.heap.size w7 (w7.alloc (.cells MX 37)) := (Below.refl _ _).alloc (Nat.le_refl _) _
  have R3 : At (w7.alloc (.cells MX 37)) w7.heap.size MX := heap_alloc_new w7 _
  replace S1 := S1.below B3
  replace S2 := S2.below B3
  replace R1 := R1.below B3
  replace R2 := R2.below B3
  replace G : Grown w (w7.alloc (.cells MX 37)) := G.alloc _ _
  clear B3
  generalize w7.alloc (.cells MX 37) = w8 at R1 R2 R3 S1 S2 G ⊢
  generalize w7.heap.size = r3 at R3 ⊢
  refine (msg_abs v1 s2 x1.size 0 x1 ⟨#[]⟩ w8).mono ?_
  rintro e w9 ⟨MY, rfl, hMY, Gw9, B⟩
  replace S1 := S1.below B
  replace S2 := S2.below B
  replace R1 := R1.below B
  replace R2 := R2.below B
  replace R3 := R3.below B
  replace G := grown_then G Gw9
  clear B Gw9
  go_upto_region 11 with (refine list_store_new rfl 37 _ _ rfl _ MY rfl rfl (fits hMY) (by rw [hMY.size]; rfl) hMY.one ?_)
  have B4 : Below w9.heap.size w9 (w9.alloc (.cells MY 37)) := (Below.refl _ _).alloc (Nat.le_refl _) _
  have R4 : At (w9.alloc (.cells MY 37)) w9.heap.size MY := heap_alloc_new w9 _
  replace S1 := S1.below B4
  replace S2 := S2.below B4
  replace R1 := R1.below B4
  replace R2 := R2.below B4
  replace R3 := R3.below B4
  replace G : Grown w (w9.alloc (.cells MY 37)) := G.alloc _ _
  clear B4
  generalize w9.alloc (.cells MY 37) = w10 at R1 R2 R3 R4 S1 S2 G ⊢
  generalize w9.heap.size = r4 at R4 ⊢
  cases e1 : (s1 == s2) <;> cases e2 : (v1 == v2)
  all_goals
    go_wp2_with (refine load_want rfl 37 _ rfl r1 rfl 37 M1 (0, 0) _ R1 Try.underlying37 rfl (fits hM1) ?_)
    refine (call_is M1 s1 v1 s1 v1 b1 w10 true hM1 S1 (same_self _ _)).mono ?_
    rintro e w11 ⟨rfl, G1, B⟩
    replace S1 := S1.below B
    replace S2 := S2.below B
    replace R1 := R1.below B
    replace R2 := R2.below B
    replace R3 := R3.below B
    replace R4 := R4.below B
    replace G := grown_then G G1
    clear B G1
    go_wp2_with (refine load_want rfl 37 _ rfl r2 rfl 37 M2 (0, 0) _ R2 Try.underlying37 rfl (fits hM2) ?_)
    refine (call_is M2 s2 v2 s2 v2 b2 w11 true hM2 S2 (same_self _ _)).mono ?_
    rintro e w12 ⟨rfl, G1, B⟩
    replace S1 := S1.below B
    replace S2 := S2.below B
    replace R1 := R1.below B
    replace R2 := R2.below B
    replace R3 := R3.below B
    replace R4 := R4.below B
    replace G := grown_then G G1
    clear B G1
    go_wp2_with (refine load_want rfl 37 _ rfl r2 rfl 37 M2 (0, 0) _ R2 Try.underlying37 rfl (fits hM2) ?_)
    refine (call_is M2 s2 v2 s1 v1 b1 w12 (s1 == s2 && v1 == v2) hM2 S1 (rfl)).mono ?_
    rintro e w13 ⟨rfl, G1, B⟩
    replace S1 := S1.below B
    replace S2 := S2.below B
    replace R1 := R1.below B
    replace R2 := R2.below B
    replace R3 := R3.below B
    replace R4 := R4.below B
    replace G := grown_then G G1
    clear B G1
    go_wp2_with (refine load_want rfl 37 _ rfl r1 rfl 37 M1 (0, 0) _ R1 Try.underlying37 rfl (fits hM1) ?_)
    refine (call_is M1 s1 v1 s2 v2 b2 w13 (s1 == s2 && v1 == v2) hM1 S2 (same_back _ _ _ _)).mono ?_
    rintro e w14 ⟨rfl, G1, B⟩
    replace S1 := S1.below B
    replace S2 := S2.below B
    replace R1 := R1.below B
    replace R2 := R2.below B
    replace R3 := R3.below B
    replace R4 := R4.below B
    replace G := grown_then G G1
    clear B G1
    go_wp2_with (refine load_want rfl 37 _ rfl r3 rfl 37 MX (0, 0) _ R3 Try.underlying37 rfl (fits hMX) ?_)
    refine (call_is MX s1 v2 s1 v1 b1 w14 (v1 == v2) hMX S1 (same_ver _ _ _)).mono ?_
    rintro e w15 ⟨rfl, G1, B⟩
    replace S1 := S1.below B
    replace S2 := S2.below B
    replace R1 := R1.below B
    replace R2 := R2.below B
    replace R3 := R3.below B
    replace R4 := R4.below B
    replace G := grown_then G G1
    clear B G1
    go_wp2_with (refine load_want rfl 37 _ rfl r4 rfl 37 MY (0, 0) _ R4 Try.underlying37 rfl (fits hMY) ?_)
    refine (call_is MY s2 v1 s1 v1 b1 w15 (s1 == s2) hMY S1 (same_ser _ _ _)).mono ?_
    rintro e w16 ⟨rfl, G1, B⟩
    replace S1 := S1.below B
    replace S2 := S2.below B
    replace R1 := R1.below B
    replace R2 := R2.below B
    replace R3 := R3.below B
    replace R4 := R4.below B
    replace G := grown_then G G1
    clear B G1
    go_wp2
    go_ret
    exact ⟨rfl, G⟩
end Go.Proofs.Qxb6618988a

import Derived.Test.Qxb6616947aWait
namespace Go.Proofs.Qxb6616947a
open Go.RowKit Go.Conc

/-! ### the doors of the package -/
theorem zwait_fresh (p c : Nat) (w : World) (B : Nat) (hp : B ≤ p) (hc : B ≤ c) (h : Task w p c 0 false) :
    Calls Try.prog 14 #[.pointer (some ⟨p, 0, none⟩)] w fun e w' => e = .returned (.tuple #[]) ∧ Task w' p c 1 true ∧ Below B w w' := by
  go_enter Try.func14, Try.ntmps14
  go_wp2_with fail
  refine (wait_fresh p c w B hp hc h).mono ?_
  rintro e w1 ⟨rfl, h1, b1⟩
  go_wp2
  go_end0
  exact ⟨rfl, h1, b1⟩
theorem zwait_done (p c : Nat) (w : World) (B : Nat) (h : Task w p c 1 true) :
    Calls Try.prog 14 #[.pointer (some ⟨p, 0, none⟩)] w fun e w' => e = .returned (.tuple #[]) ∧ Task w' p c 1 true ∧ Below B w w' := by
  go_enter Try.func14, Try.ntmps14
  go_wp2_with fail
  refine (wait_done p c w B h).mono ?_
  rintro e w1 ⟨rfl, h1, b1⟩
  go_wp2
  go_end0
  exact ⟨rfl, h1, b1⟩
theorem zclaim_hit (p c : Nat) (cl : Bool) (w : World) (B : Nat) (hB : B ≤ p) (h : Task w p c 0 cl) :
    Calls Try.prog 12 #[.pointer (some ⟨p, 0, none⟩)] w fun e w' => e = .returned (.bool true) ∧ Task w' p c 1 cl ∧ Below B w w' := by
  go_enter Try.func12, Try.ntmps12
  go_wp2_with fail
  refine (claim_hit p c cl w B hB h).mono ?_
  rintro e w1 ⟨rfl, h1, b1⟩
  go_wp2
  go_ret
  exact ⟨rfl, h1, b1⟩
theorem zclaim_miss (p c : Nat) (cl : Bool) (w : World) (B : Nat) (h : Task w p c 1 cl) :
    Calls Try.prog 12 #[.pointer (some ⟨p, 0, none⟩)] w fun e w' => e = .returned (.bool false) ∧ Task w' p c 1 cl ∧ Below B w w' := by
  go_enter Try.func12, Try.ntmps12
  go_wp2_with fail
  refine (claim_miss p c cl w B h).mono ?_
  rintro e w1 ⟨rfl, h1, b1⟩
  go_wp2
  go_ret
  exact ⟨rfl, h1, b1⟩
theorem zrun_any (p c : Nat) (k : Int) (w : World) (B : Nat) (hB : B ≤ c) (h : Task w p c k false) :
    Calls Try.prog 13 #[.pointer (some ⟨p, 0, none⟩)] w fun e w' => e = .returned (.tuple #[]) ∧ Task w' p c k true ∧ Below B w w' := by
  go_enter Try.func13, Try.ntmps13
  go_wp2_with fail
  refine (run_any p c k w B hB h).mono ?_
  rintro e w1 ⟨rfl, h1, b1⟩
  go_wp2
  go_end0
  exact ⟨rfl, h1, b1⟩

/-! ### FnTaskWaitLeavesTaskClaimed -/
set_option maxHeartbeats 400000 in
theorem leaves_walk (a : Bool) (w : World) : Calls Try.prog 5 #[.bool a] w fun e w' => e = .returned (.bool true) ∧ Below w.heap.size w w' := by
  cases a
  · go_enter Try.func5, Try.ntmps5
    go_wp2_with fail
    refine (new_any w).mono ?_
    rintro e w1 ⟨p, c, rfl, hp, hc, _, h1, b1⟩
    go_wp2_with fail
    refine (zwait_fresh p c w1 w.heap.size hp hc h1).mono ?_
    rintro e w2 ⟨rfl, h2, b2⟩
    go_wp2_with fail
    refine (claimed_any p c 1 true w2 h2).mono ?_
    rintro e w2' ⟨rfl, rfl⟩
    go_wp2_with fail
    refine (zclaim_miss p c true w2 w.heap.size h2).mono ?_
    rintro e w3 ⟨rfl, h3, b3⟩
    go_wp2
    go_ret
    exact ⟨rfl, (b1.trans b2).trans b3⟩
  · go_enter Try.func5, Try.ntmps5
    go_wp2_with fail
    refine (new_any w).mono ?_
    rintro e w1 ⟨p, c, rfl, hp, hc, _, h1, b1⟩
    go_wp2_with fail
    refine (zclaim_hit p c false w1 w.heap.size hp h1).mono ?_
    rintro e w2 ⟨rfl, h2, b2⟩
    go_wp2_with fail
    refine (zrun_any p c 1 w2 w.heap.size hc h2).mono ?_
    rintro e w3 ⟨rfl, h3, b3⟩
    go_wp2_with fail
    refine (zwait_done p c w3 w.heap.size h3).mono ?_
    rintro e w4 ⟨rfl, h4, b4⟩
    go_wp2_with fail
    refine (claimed_any p c 1 true w4 h4).mono ?_
    rintro e w4' ⟨rfl, rfl⟩
    go_wp2_with fail
    refine (zclaim_miss p c true w4 w.heap.size h4).mono ?_
    rintro e w5 ⟨rfl, h5, b5⟩
    go_wp2
    go_ret
    exact ⟨rfl, (((b1.trans b2).trans b3).trans b4).trans b5⟩

/-! ### FnTaskWaitRepeatedReturns -/
/-- The word 'claimed' behind k waits. -/
def word (k : Nat) : Int := if k = 0 then 0 else 1
def shutB (k : Nat) : Bool := decide (k ≠ 0)

set_option maxHeartbeats 400000 in
theorem repeat_walk (n : Nat) (hn : n ≤ 255) (w : World) : Calls Try.prog 6 #[.int .u8 n] w fun e w' => e = .returned (.bool true) ∧ Below w.heap.size w w' := by
  go_enter Try.func6, Try.ntmps6
  go_wp2_with fail
  refine (new_any w).mono ?_
  rintro e w1 ⟨p, c, rfl, hp, hc, _, h1, b1⟩
  go_wp2_with fail
  go_loopw [4] (fun i wr => ∃ k : Nat, k ≤ n ∧ i = .int .i64 k ∧ Task wr p c (word k) (shutB k) ∧ Below w.heap.size w wr) (fun i _ => n - (intOf i).toNat)
  case atStart => exact ⟨0, Nat.zero_le _, rfl, h1, b1⟩
  case round =>
    obtain ⟨k, hk, rfl, ht, hb⟩ := hrel
    clear h1 b1
    by_cases hlt : k < n
    · by_cases h0 : k = 0
      · subst h0
        have HT : Hid _ := ht
        clear ht
        go_wp2_with fail
        refine (zwait_fresh p c wr w.heap.size hp hc HT.out).mono ?_
        rintro e w2 ⟨rfl, h2, b2⟩
        go_wp2
        go_roundw
        case rel => exact ⟨1, by omega, by go_num, h2, hb.trans b2⟩
        case measure => simp [intOf]; omega
      · have h3 : Task wr p c 1 true := by
          have e1 : word k = 1 := if_neg h0
          have e2 : shutB k = true := decide_eq_true h0
          rw [e1, e2] at ht
          exact ht
        clear ht
        go_wp2_with fail
        refine (zwait_done p c wr w.heap.size h3).mono ?_
        rintro e w2 ⟨rfl, h2, b2⟩
        go_wp2
        go_roundw
        case rel => exact ⟨k + 1, by omega, by go_num, by
          have e1 : word (k + 1) = 1 := if_neg (by omega)
          have e2 : shutB (k + 1) = true := decide_eq_true (by omega)
          rw [e1, e2]; exact h2, hb.trans b2⟩
        case measure => simp [intOf]; omega
    · obtain rfl : k = n := by omega
      by_cases h0 : k = 0
      · subst h0
        have h3 : Task wr p c 0 false := ht
        clear ht
        go_wp2_with fail
        refine (claimed_any p c 0 false wr h3).mono ?_
        rintro e w2 ⟨rfl, rfl⟩
        go_wp2
        go_ret
        exact ⟨rfl, hb⟩
      · have h3 : Task wr p c 1 true := by
          have e1 : word k = 1 := if_neg h0
          have e2 : shutB k = true := decide_eq_true h0
          rw [e1, e2] at ht
          exact ht
        clear ht
        have hk0 : (0 : Int) < (k : Int) := by omega
        go_wp2_with fail
        refine (claimed_any p c 1 true wr h3).mono ?_
        rintro e w2 ⟨rfl, rfl⟩
        go_wp2
        go_ret
        exact ⟨by show Ending.returned (.bool (decide (0 < k))) = _; rw [decide_eq_true (by omega)], hb⟩
end Go.Proofs.Qxb6616947a

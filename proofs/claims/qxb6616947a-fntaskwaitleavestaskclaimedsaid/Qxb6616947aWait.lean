import Derived.Test.Qxb6616947aTask
namespace Go.Proofs.Qxb6616947a
open Go.RowKit Go.Conc

theorem nothing_any (w : World) : Calls Try.prog 18 #[] w fun e w' => e = .returned (.tuple #[]) ∧ w = w' := by
  go_enter Try.func18, Try.ntmps18
  go_wp2
  go_end0
  exact ⟨rfl, rfl⟩

set_option maxHeartbeats 400000 in
theorem run_any (p c : Nat) (k : Int) (w : World) (B : Nat) (hB : B ≤ c) (h : Task w p c k false) :
    Calls Try.prog 20 #[.pointer (some ⟨p, 0, none⟩)] w fun e w' => e = .returned (.tuple #[]) ∧ Task w' p c k true ∧ Below B w w' := by
  have c0 := h.c0
  have c2 := h.c2
  have hcl := fun ats ty => run_close_open (P := Try.prog) (w := w) ats ty h.chan
  go_enter Try.func20, Try.ntmps20
  go_wp2_with (go_at_call 18; refine (nothing_any _).mono ?_; rintro e w1 ⟨rfl, rfl⟩)
  go_end0
  exact ⟨rfl, h.shut, below_setChan (Below.refl _ _) hB _ _ _ _ _ _⟩

theorem claimed_any (p c : Nat) (k : Int) (cl : Bool) (w : World) (h : Task w p c k cl) :
    Calls Try.prog 15 #[.pointer (some ⟨p, 0, none⟩)] w fun e w' => e = .returned (.bool (k != 0)) ∧ w = w' := by
  have c0 := h.c0
  have c1 := h.c1
  have hld := run_call_load (P := Try.prog) Try.func24 (by kernel_rfl) (by kernel_rfl) (by kernel_rfl) .u32 (by kernel_rfl) c1
  go_enter Try.func15, Try.ntmps15
  go_wp2
  go_ret
  exact ⟨rfl, rfl⟩

theorem wait_fresh (p c : Nat) (w : World) (B : Nat) (hp : B ≤ p) (hc : B ≤ c) (h : Task w p c 0 false) :
    Calls Try.prog 21 #[.pointer (some ⟨p, 0, none⟩)] w fun e w' => e = .returned (.tuple #[]) ∧ Task w' p c 1 true ∧ Below B w w' := by
  go_enter Try.func21, Try.ntmps21
  go_wp2_with fail
  refine (claim_hit p c false w B hp h).mono ?_
  rintro e w1 ⟨rfl, h1, b1⟩
  go_wp2_with fail
  refine (run_any p c 1 w1 B hc h1).mono ?_
  rintro e w2 ⟨rfl, h2, b2⟩
  go_wp2
  refine bodyPost_ret (results_none rfl _ _ _) rfl ?_
  exact ⟨rfl, h2, b1.trans b2⟩

/-- In the walk of a lone goroutine that also communicates: a call of a function by its contract. -/
theorem lone_call {P : Program} {Q : Goroutine → World → Prop} {b : Frame} {a : Act} {k : List Item} {cs : List Frame} {w : World} {ops : Array Oper} {i : Nat} {rest : List Nat} {o : Oper} {f : FuncId} {args : Array Value}
    {R : Ending → World → Prop} (ho : ops[i]? = some o) (hw : Region.wanted o (yielded ops a.tmps) = true) (hk : b.kind ≠ .early) (hr : (execOp a.eval o).run P w = .ok (.enter f args) w) (hc : Calls P f args w R)
    (hK : ∀ e w', R e w' → ∃ v, e = .returned v ∧ LoneTo P Q (G ((b.at a (.inRegion ops (i :: rest) :: k)).finish v) cs) w') :
    LoneTo P Q (G (b.at a (.inRegion ops (i :: rest) :: k)) cs) w := by
  refine LoneTo.step (step_solo_go rfl (stepG_enter ho hw hk hr)) ?_
  obtain ⟨e, w', fr, hR, hs, hf, hl⟩ := hc (b.at a (.inRegion ops (i :: rest) :: k) :: cs)
  obtain ⟨v, rfl, g', w'', hs', hq⟩ := hK e w' hR
  exact ⟨g', w'', Steps.trans hs (Steps.head (step_leave_returned hl) hs'), hq⟩

set_option maxRecDepth 100000 in
theorem wait_done (p c : Nat) (w : World) (B : Nat) (h : Task w p c 1 true) :
    Calls Try.prog 21 #[.pointer (some ⟨p, 0, none⟩)] w fun e w' => e = .returned (.tuple #[]) ∧ Task w' p c 1 true ∧ Below B w w' := by
  refine calls_of_loneTo fun cs => ?_
  have e : Frame.enter Try.prog 21 #[.pointer (some ⟨p, 0, none⟩)] .normal = (base 21).at ⟨#[.pointer (some ⟨p, 0, none⟩), undef, undef, undef, undef, undef, undef, undef, undef, undef, undef], []⟩ [.code (Try.f21.body.getD .skip)] := by
    simp [Frame.enter, Frame.at, Try.func21, base, Try.f21]
  rw [e]
  refine LoneTo.goes (n := 4) ?_
  simp only [Try.f21, Option.getD_some]
  s_c stepG_seq
  s_c stepG_seq
  s_reg
  s_op
  s_stop
  refine lone_call (f := 19) (args := #[.pointer (some ⟨p, 0, none⟩)]) rfl rfl (by decide) ?_ (claim_miss p c true w B h) ?_
  · refine (run_call_body (args := #[.tmp 2]) (ats := #[26]) ?_ Try.func19 (by kernel_rfl) (by kernel_rfl)).trans ?_
    · rfl
    · simp [Act.eval]
  rintro e1 w1 ⟨rfl, h1, b1⟩
  refine ⟨_, rfl, ?_⟩
  rw [Frame.finish_at]
  walk_nrm
  have c2 := h1.c2
  have c0 := h1.c0
  refine LoneTo.goes (n := 8) ?_
  s_c stepG_region_end
  s_cond false
  s_c stepG_skip
  s_reg
  s_op
  s_op
  s_op
  s_op
  s_stop
  refine LoneTo.step (step_lone_recv_shut false (c := c) (z := .agg #[]) (cap := 0) (s := 0) (r := 0) (tm := false) (stepG_comm (cases := #[rcase c (.agg #[])]) (blocking := true) (shape := .recv false) (w' := w1) rfl rfl (by decide) (by simp [go_sem, rcase])) h1.chan) ?_
  rw [Frame.finish_at]
  simp only [got]
  walk_nrm
  refine LoneTo.goes (n := 2) ?_
  s_c stepG_region_end
  s_c stepG_end
  s_stop
  refine LoneTo.done ⟨.returned (.tuple #[]), _, rfl, ⟨rfl, h1, b1⟩, rfl, rfl, rfl, rfl, _, Try.func21, by simp [results, Try.f21, Frame.at]⟩
end Go.Proofs.Qxb6616947a

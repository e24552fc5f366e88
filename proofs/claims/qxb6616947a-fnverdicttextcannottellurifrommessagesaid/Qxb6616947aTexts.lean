import Derived.Test.Qxb6616947aRows
import Derived.WalkKit
import Derived.ProofKit
import Derived.Below
import Derived.BigQuiet
import Derived.Deep.QuietTactic
import Derived.Deep.RegionWith
import Derived.WalkSmall
import Derived.WalkSpells
import Derived.WalkLawsBesides
namespace Go.Proofs.Qxb6616947a
open Go.RowKit

/-- Ending in a draw that leaves all as it was. -/
theorem grown_drewN {a b : World} (h : Grown a b) (n : Nat) : Grown a (b.drewN n) := h

theorem grown_then {a b c : World} (h : Grown a b) (k : Grown b c) : Grown a c :=
  ⟨World.keptBut_trans h.1 k.1, fun x => (k.2.1 x).trans (h.2.1 x), Nat.le_trans h.2.2 k.2.2⟩

theorem error_any (m : ByteArray) (p : Addr) (w : World) (hp : w.cell? p = some (.string m)) :
    Calls Try.prog 43 #[.pointer (some p)] w fun e w' => e = .returned (.string m) ∧ w' = w := by
  go_enter Try.func43, Try.ntmps43
  go_wp2
  go_ret
  exact ⟨rfl, rfl⟩

set_option maxHeartbeats 400000 in
theorem string_nil (u : ByteArray) (w : World) (_hu : u.size ≤ 2000000) :
    Calls Try.prog 16 #[.agg #[.string u, .nilIface]] w fun e w' => e = .returned (.string (u ++ ⟨#[58, 32, 118, 97, 108, 105, 100]⟩)) ∧ Grown w w' := by
  go_enter Try.func16, Try.ntmps16
  go_wp2
  go_ret
  exact ⟨rfl, (Grown.refl _).alloc _ _⟩
theorem meth_error (p : Addr) (w : World) : (method 171 47 (.pointer (some p)) "Error").run Try.prog w = .ok (43, .pointer (some p)) w := by kernel_rfl

set_option maxHeartbeats 400000 in
theorem string_err (u m : ByteArray) (p : Addr) (w : World) (hu : u.size ≤ 2000000) (hm : m.size ≤ 2000000) (hp : w.cell? p = some (.string m)) :
    Calls Try.prog 16 #[.agg #[.string u, .iface 47 (.pointer (some p))]] w fun e w' => e = .returned (.string (u ++ ⟨#[58, 32]⟩ ++ m)) ∧ Grown w w' := by
  have me := meth_error p
  have hp1 : ∀ q, ((w.alloc (.cells #[.string u, .iface 47 (.pointer (some p))] 35)).drewN q).cell? p = some (.string m) := fun q => (((Below.refl w.heap.size w).alloc (Nat.le_refl _) _).cell (World.block_lt_of_cell? w p hp)).trans hp
  have HP : Hid _ := hp1
  clear hp1
  have hs : (u ++ (⟨#[58, 32]⟩ : ByteArray)).size = u.size + 2 := by simp [ByteArray.size_append]; rfl
  go_enter Try.func16, Try.ntmps16
  go_wp2
  go_quiet ((go_at_call 43; with_reducible exact Calls.quiet_of_same (error_any m p _ (HP.out _))))
  go_wp2
  go_ret
  exact ⟨rfl, grown_drewN ((Grown.refl _).alloc _ _) _⟩

/-! ### ZZvalidText, ZZerrText -/
theorem valid_any (u : ByteArray) (w : World) (hu : u.size ≤ 2000000) :
    Calls Try.prog 8 #[.string u] w fun e w' => e = .returned (.string (u ++ ⟨#[58, 32, 118, 97, 108, 105, 100]⟩)) ∧ Grown w w' := by
  go_enter Try.func8, Try.ntmps8
  go_wp2_with fail
  refine (string_nil u w hu).mono ?_
  rintro e w1 ⟨rfl, hg⟩
  go_wp2
  go_ret
  exact ⟨rfl, hg⟩
theorem err_any (u m : ByteArray) (w : World) (hu : u.size ≤ 2000000) (hm : m.size ≤ 2000000) :
    Calls Try.prog 9 #[.string u, .string m] w fun e w' => e = .returned (.string (u ++ ⟨#[58, 32]⟩ ++ m)) ∧ Grown w w' := by
  go_enter Try.func9, Try.ntmps9
  go_wp2_with (go_at_call 17; go_in)
  refine (string_err u m ⟨w.heap.size, 0, none⟩ _ hu hm (by simp)).mono ?_
  rintro e w1 ⟨rfl, hg⟩
  go_wp2
  go_ret
  exact ⟨rfl, grown_then ((Grown.refl _).alloc _ _) hg⟩

end Go.Proofs.Qxb6616947a

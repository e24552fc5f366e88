import Derived.Test.Qxb6616947aTexts
namespace Go.Proofs.Qxb6616947a
open Go.RowKit

set_option maxHeartbeats 400000 in
theorem bytes7_yes (u m : ByteArray) (w : World) (h : u.size + m.size ≤ 1048576) :
    Calls Try.prog 7 #[.string u, .string m] w fun e w' => e = .returned (.bool true) ∧ w' = w := by
  go_enter Try.func7, Try.ntmps7
  go_wp2
  go_ret
  exact ⟨rfl, rfl⟩
set_option maxHeartbeats 400000 in
theorem bytes7_no (u m : ByteArray) (w : World) (hu : u.size ≤ maxLen) (hm : m.size ≤ maxLen) (h : ¬ u.size + m.size ≤ 1048576) :
    Calls Try.prog 7 #[.string u, .string m] w fun e w' => e = .returned (.bool false) ∧ w' = w := by
  unfold maxLen at hu hm
  by_cases h1 : u.size ≤ 1048576
  · by_cases h2 : m.size ≤ 1048576
    · go_enter Try.func7, Try.ntmps7
      go_wp2
      go_ret
      exact ⟨rfl, rfl⟩
    · go_enter Try.func7, Try.ntmps7
      go_wp2
      go_ret
      exact ⟨rfl, rfl⟩
  · go_enter Try.func7, Try.ntmps7
    go_wp2
    go_ret
    exact ⟨rfl, rfl⟩

/-! ### the plain laws of the two texts -/
def sep2 : ByteArray := ⟨#[58, 32]⟩
def val5 : ByteArray := ⟨#[118, 97, 108, 105, 100]⟩
theorem valid_txt (u : ByteArray) (w : World) (hu : u.size ≤ 2000000) :
    Calls Try.prog 8 #[.string u] w fun e w' => e = .returned (.string (u ++ sep2 ++ val5)) ∧ Grown w w' := by
  have h := valid_any u w hu
  rw [show (⟨#[58, 32, 118, 97, 108, 105, 100]⟩ : ByteArray) = sep2 ++ val5 from by decide +kernel, ← ByteArray.append_assoc] at h
  exact h
theorem err_txt (u m : ByteArray) (w : World) (hu : u.size ≤ 2000000) (hm : m.size ≤ 2000000) :
    Calls Try.prog 9 #[.string u, .string m] w fun e w' => e = .returned (.string (u ++ sep2 ++ m)) ∧ Grown w w' := err_any u m w hu hm
theorem sep2_size : sep2.size = 2 := rfl
theorem cut_mid (u s t : ByteArray) : (u ++ s ++ t).extract u.size (u.size + s.size) = s := by
  rw [← ByteArray.size_append, ByteArray.extract_append_size_left, ByteArray.size_append, ByteArray.extract_append_eq_right rfl rfl]
theorem cut_end (u s t : ByteArray) : (u ++ s ++ t).extract (u.size + s.size) (u.size + s.size + t.size) = t :=
  ByteArray.extract_append_eq_right (by rw [ByteArray.size_append]) (by rw [ByteArray.size_append])
theorem cut_head (u s t : ByteArray) : (u ++ s ++ t).extract 0 u.size = u := by
  rw [ByteArray.append_assoc]; exact ByteArray.extract_append_eq_left rfl
theorem list_eq (a b : ByteArray) : (a.toList == b.toList) = decide (a = b) := by
  rw [ByteArray.toList_eq, ByteArray.toList_eq, Bool.eq_iff_iff]
  simp only [beq_iff_eq, decide_eq_true_eq]
  exact ⟨WideShapes.bytes_inj, fun h => by rw [h]⟩
theorem texts_eq (u m : ByteArray) : ((u ++ sep2 ++ val5).toList == (u ++ sep2 ++ m).toList) = (m.toList == [118, 97, 108, 105, 100]) := by
  have hv : val5.toList = [118, 97, 108, 105, 100] := by decide +kernel
  rw [← hv, list_eq, list_eq, decide_eq_decide, ByteArray.append_right_inj]
  exact eq_comm

set_option maxHeartbeats 400000 in
theorem share_main (u m : ByteArray) (w : World) (hs : u.size + m.size ≤ 1048576) (hu : u.size ≤ 524288) (hm : m.size ≤ 524288) :
    Calls Try.prog 3 #[.string u, .string m] w fun e w' => e = .returned (.bool true) ∧ Grown w w' := by
  go_enter Try.func3, Try.ntmps3
  go_wp2_with fail
  refine (bytes7_yes u m w hs).mono ?_
  rintro e w' ⟨rfl, hw'⟩
  obtain rfl : w = w' := hw'.symm
  clear hw'
  go_wp2_with fail
  refine (valid_txt u _ (by omega)).mono ?_
  rintro e w1 ⟨rfl, g1⟩
  go_wp2_with fail
  refine (err_txt u m _ (by omega) (by omega)).mono ?_
  rintro e w2 ⟨rfl, g2⟩
  have hg := grown_then g1 g2
  clear g1 g2
  have e1 := cut_head u sep2 val5
  have e2 := cut_mid u sep2 val5
  have e3 := cut_head u sep2 m
  have e4 := cut_mid u sep2 m
  have e5 := cut_end u sep2 m
  have e6 := texts_eq u m
  have sa : (u ++ sep2 ++ val5).size = u.size + 7 := by rw [ByteArray.size_append, ByteArray.size_append]; rfl
  have sb : (u ++ sep2 ++ m).size = u.size + 2 + m.size := by rw [ByteArray.size_append, ByteArray.size_append, sep2_size]
  rw [sep2_size] at e2 e4 e5
  generalize u ++ sep2 ++ val5 = a at e1 e2 e6 sa ⊢
  generalize u ++ sep2 ++ m = b at e3 e4 e5 e6 sb ⊢
  go_wp2_with fail
  go_quiet (fail)
  go_wp2
  go_ret
  exact ⟨rfl, grown_drewN hg _⟩
end Go.Proofs.Qxb6616947a

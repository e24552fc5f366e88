import Derived.Test.Qxb6616947aShare
namespace Go.Proofs.Qxb6616947a
open Go.RowKit

set_option maxHeartbeats 400000 in
theorem bytes10_yes (u x y : ByteArray) (w : World) (h : u.size + x.size + y.size ≤ 1048576) :
    Calls Try.prog 10 #[.string u, .string x, .string y] w fun e w' => e = .returned (.bool true) ∧ w' = w := by
  go_enter Try.func10, Try.ntmps10
  go_wp2
  go_ret
  exact ⟨rfl, rfl⟩
set_option maxHeartbeats 400000 in
theorem bytes10_no (u x y : ByteArray) (w : World) (hu : u.size ≤ maxLen) (hx : x.size ≤ maxLen) (hy : y.size ≤ maxLen) (h : ¬ u.size + x.size + y.size ≤ 1048576) :
    Calls Try.prog 10 #[.string u, .string x, .string y] w fun e w' => e = .returned (.bool false) ∧ w' = w := by
  unfold maxLen at hu hx hy
  by_cases h1 : u.size ≤ 1048576
  · by_cases h2 : x.size ≤ 1048576
    · by_cases h3 : u.size + x.size ≤ 1048576
      · by_cases h4 : y.size ≤ 1048576
        · go_enter Try.func10, Try.ntmps10
          go_wp2
          go_ret
          exact ⟨rfl, rfl⟩
        · go_enter Try.func10, Try.ntmps10
          go_wp2
          go_ret
          exact ⟨rfl, rfl⟩
      · go_enter Try.func10, Try.ntmps10
        go_wp2
        go_ret
        exact ⟨rfl, rfl⟩
    · go_enter Try.func10, Try.ntmps10
      go_wp2
      go_ret
      exact ⟨rfl, rfl⟩
  · go_enter Try.func10, Try.ntmps10
    go_wp2
    go_ret
    exact ⟨rfl, rfl⟩

theorem size_two (x y : ByteArray) : (x ++ (⟨#[58, 32]⟩ : ByteArray) ++ y).size = x.size + 2 + y.size := by
  rw [ByteArray.size_append, ByteArray.size_append]; rfl
theorem size_seven (x : ByteArray) : (x ++ (⟨#[58, 32, 118, 97, 108, 105, 100]⟩ : ByteArray)).size = x.size + 7 := by
  rw [ByteArray.size_append]; rfl
theorem one_text (u x y s : ByteArray) : u ++ s ++ x ++ s ++ y = u ++ s ++ (x ++ s ++ y) := by simp only [ByteArray.append_assoc]

set_option maxHeartbeats 400000 in
theorem tell_main (u x y : ByteArray) (w : World) (hs : u.size + x.size + y.size ≤ 1048576) (hu : u.size ≤ 262144) (hx : x.size ≤ 262144) (hy : y.size ≤ 262144) :
    Calls Try.prog 4 #[.string u, .string x, .string y] w fun e w' => e = .returned (.bool true) ∧ Grown w w' := by
  go_enter Try.func4, Try.ntmps4
  go_wp2_with fail
  refine (bytes10_yes u x y w hs).mono ?_
  rintro e w' ⟨rfl, hw'⟩
  obtain rfl : w = w' := hw'.symm
  clear hw'
  go_wp2_with fail
  refine (err_any u (x ++ (⟨#[58, 32]⟩ : ByteArray) ++ y) _ (by omega) (by rw [size_two]; omega)).mono ?_
  rintro e w1 ⟨rfl, g1⟩
  have sb := size_two u (x ++ (⟨#[58, 32]⟩ : ByteArray) ++ y)
  have hbc := one_text u x y ⟨#[58, 32]⟩
  have z0 := size_two u x
  have z1 := size_two x y
  rw [z1] at sb
  generalize u ++ (⟨#[58, 32]⟩ : ByteArray) ++ (x ++ (⟨#[58, 32]⟩ : ByteArray) ++ y) = b at sb hbc ⊢
  have HB : Hid _ := hbc
  clear hbc
  go_wp2_with fail
  refine (err_any (u ++ (⟨#[58, 32]⟩ : ByteArray) ++ x) y _ (by rw [z0]; omega) (by omega)).mono ?_
  rintro e w2 ⟨rfl, g2⟩
  rw [HB.out]
  clear HB
  go_wp2_with fail
  refine (valid_any (u ++ (⟨#[58, 32]⟩ : ByteArray) ++ x) _ (by rw [z0]; omega)).mono ?_
  rintro e w3 ⟨rfl, g3⟩
  rw [ByteArray.append_assoc (a := u ++ (⟨#[58, 32]⟩ : ByteArray)) (b := x)]
  generalize hd : u ++ (⟨#[58, 32]⟩ : ByteArray) ++ (x ++ (⟨#[58, 32, 118, 97, 108, 105, 100]⟩ : ByteArray)) = d
  have HD : Hid _ := hd
  clear hd
  go_wp2_with fail
  refine (err_any u (x ++ (⟨#[58, 32, 118, 97, 108, 105, 100]⟩ : ByteArray)) _ (by omega) (by rw [size_seven]; omega)).mono ?_
  rintro e w4 ⟨rfl, g4⟩
  rw [HD.out]
  clear HD
  have hg := grown_then (grown_then (grown_then g1 g2) g3) g4
  clear g1 g2 g3 g4
  go_wp2
  go_ret
  exact ⟨rfl, hg⟩
end Go.Proofs.Qxb6616947a

import Derived.Test.Qxb6632402aWalkA
namespace Go.Proofs.Qxb6632402a
open Go.RowKit

theorem bytes_yes3 (s t : ByteArray) (h : s.size + t.size ≤ 1048576) (w : World) :
    Calls Try.prog 5 #[.string s, .string t] w fun e w' => e = .returned (.bool true) ∧ w' = w := by
  go_enter Try.func5, Try.ntmps5
  go_wp2
  go_ret
  exact ⟨rfl, rfl⟩
theorem bytes_no3 (s t : ByteArray) (hs : s.size ≤ 9223372036854775807) (ht : t.size ≤ 9223372036854775807) (h : ¬ s.size + t.size ≤ 1048576) (w : World) :
    Calls Try.prog 5 #[.string s, .string t] w fun e w' => e = .returned (.bool false) ∧ w' = w := by
  go_enter Try.func5, Try.ntmps5
  go_wp2
  all_goals (go_ret; exact ⟨rfl, rfl⟩)

theorem law3_long (s t : ByteArray) (hs : s.size ≤ 9223372036854775807) (ht : t.size ≤ 9223372036854775807) (h : ¬ s.size + t.size ≤ 1048576) (w : World) :
    Calls Try.prog 3 #[.string s, .string t] w fun e w' => e = .returned (.bool true) ∧ Grown w w' := by
  go_enter Try.func3, Try.ntmps3
  go_wp2_with fail
  refine (bytes_no3 s t hs ht h _).mono ?_
  rintro e w' ⟨rfl, rfl⟩
  go_wp2_with fail
  go_ret
  exact ⟨rfl, Grown.refl _⟩

theorem bs_append (s t : ByteArray) : bs (s ++ t) = bs s ++ bs t := by simp [bs]
theorem sz1 (s : ByteArray) : (s ++ ⟨#[47]⟩ : ByteArray).size = s.size + 1 := by rw [← bs_len, bs_append]; simp [bs]
theorem sz2 (s : ByteArray) : (⟨#[47]⟩ ++ s : ByteArray).size = s.size + 1 := by rw [← bs_len, bs_append]; simp [bs]
theorem rx_le (s : ByteArray) : rx (bs s) ≤ s.size := by
  rcases rx_close (bs s) with e | ⟨k, e, h, _⟩
  · rw [e]; omega
  · rw [e]; rw [bs_len] at h; omega

set_option maxHeartbeats 400000 in
theorem law3_keep (s t : ByteArray) (h : s.size + t.size ≤ 1048576) (hr : 0 ≤ rx (bs s)) (HF : Hid ( rx (bs (s ++ t)) = rx (bs s))) (w : World) :
    Calls Try.prog 3 #[.string s, .string t] w fun e w' => e = .returned (.bool true) ∧ Grown w w' := by
  go_enter Try.func3, Try.ntmps3
  go_wp2_with fail
  refine (bytes_yes3 s t h _).mono ?_
  rintro e w' ⟨rfl, rfl⟩
  go_wp2_with fail
  refine (zend_any s _ (by omega)).mono ?_
  rintro e w' ⟨rfl, rfl⟩
  go_wp2_with fail
  refine (zend_any (s ++ t) _ (by simp; omega)).mono ?_
  rintro e w' ⟨rfl, rfl⟩
  go_wp2_with fail
  refine (close_any s (by omega) _).mono ?_
  rintro e w' ⟨rfl, rfl⟩
  go_wp2_with fail
  refine (close_any (s ++ t) (by simp; omega) _).mono ?_
  rintro e w' ⟨rfl, rfl⟩
  go_wp2_with fail
  go_ret
  exact ⟨ret_bool (by rw [HF.out]; simp), Grown.refl _⟩

set_option maxHeartbeats 400000 in
theorem law3_a (s t : ByteArray) (h : s.size + t.size ≤ 1048576) (hr : rx (bs s) < 0) (h1 : (rx (bs (s ++ ⟨#[47]⟩)) == (s.size : Int)) = true) (h2 : 0 ≤ rx (bs (⟨#[47]⟩ ++ t))) (_h3 : rx (bs (⟨#[47]⟩ ++ t)) ≤ 2097152) (HF : Hid (rx (bs (s ++ t)) = s.size + rx (bs (⟨#[47]⟩ ++ t)) - 1)) (w : World) :
    Calls Try.prog 3 #[.string s, .string t] w fun e w' => e = .returned (.bool true) ∧ Grown w w' := by
  go_enter Try.func3, Try.ntmps3
  go_wp2_with fail
  refine (bytes_yes3 s t h _).mono ?_
  rintro e w' ⟨rfl, rfl⟩
  go_wp2_with fail
  refine (zend_any s _ (by omega)).mono ?_
  rintro e w' ⟨rfl, rfl⟩
  go_wp2_with fail
  refine (zend_any (s ++ t) _ (by simp; omega)).mono ?_
  rintro e w' ⟨rfl, rfl⟩
  go_wp2_with fail
  refine (close_any s (by omega) _).mono ?_
  rintro e w' ⟨rfl, rfl⟩
  go_wp2_with fail
  refine (close_any (s ++ t) (by simp; omega) _).mono ?_
  rintro e w' ⟨rfl, rfl⟩
  go_wp2_with fail
  refine (zend_any _ _ (by rw [sz1]; omega)).mono ?_
  rintro e w' ⟨rfl, rfl⟩
  go_wp2_with fail
  refine (zend_any _ _ (by rw [sz2]; omega)).mono ?_
  rintro e w' ⟨rfl, rfl⟩
  go_wp2_with fail
  go_ret
  exact ⟨ret_bool (by rw [HF.out]; simp), Grown.refl _⟩

set_option maxHeartbeats 400000 in
theorem law3_b (s t : ByteArray) (h : s.size + t.size ≤ 1048576) (hr : rx (bs s) < 0) (h1 : (rx (bs (s ++ ⟨#[47]⟩)) == (s.size : Int)) = true) (h2 : rx (bs (⟨#[47]⟩ ++ t)) < 0) (HF : Hid (rx (bs (s ++ t)) = -1)) (w : World) :
    Calls Try.prog 3 #[.string s, .string t] w fun e w' => e = .returned (.bool true) ∧ Grown w w' := by
  go_enter Try.func3, Try.ntmps3
  go_wp2_with fail
  refine (bytes_yes3 s t h _).mono ?_
  rintro e w' ⟨rfl, rfl⟩
  go_wp2_with fail
  refine (zend_any s _ (by omega)).mono ?_
  rintro e w' ⟨rfl, rfl⟩
  go_wp2_with fail
  refine (zend_any (s ++ t) _ (by simp; omega)).mono ?_
  rintro e w' ⟨rfl, rfl⟩
  go_wp2_with fail
  refine (close_any s (by omega) _).mono ?_
  rintro e w' ⟨rfl, rfl⟩
  go_wp2_with fail
  refine (close_any (s ++ t) (by simp; omega) _).mono ?_
  rintro e w' ⟨rfl, rfl⟩
  go_wp2_with fail
  refine (zend_any _ _ (by rw [sz1]; omega)).mono ?_
  rintro e w' ⟨rfl, rfl⟩
  go_wp2_with fail
  refine (zend_any _ _ (by rw [sz2]; omega)).mono ?_
  rintro e w' ⟨rfl, rfl⟩
  go_wp2_with fail
  go_ret
  exact ⟨ret_bool (by rw [HF.out]; simp), Grown.refl _⟩

set_option maxHeartbeats 400000 in
theorem law3_c (s t : ByteArray) (h : s.size + t.size ≤ 1048576) (hr : rx (bs s) < 0) (h1 : (rx (bs (s ++ ⟨#[47]⟩)) == (s.size : Int)) = false) (h2 : 0 ≤ rx (bs t)) (_h3 : rx (bs t) ≤ 2097152) (HF : Hid (rx (bs (s ++ t)) = s.size + rx (bs t))) (w : World) :
    Calls Try.prog 3 #[.string s, .string t] w fun e w' => e = .returned (.bool true) ∧ Grown w w' := by
  go_enter Try.func3, Try.ntmps3
  go_wp2_with fail
  refine (bytes_yes3 s t h _).mono ?_
  rintro e w' ⟨rfl, rfl⟩
  go_wp2_with fail
  refine (zend_any s _ (by omega)).mono ?_
  rintro e w' ⟨rfl, rfl⟩
  go_wp2_with fail
  refine (zend_any (s ++ t) _ (by simp; omega)).mono ?_
  rintro e w' ⟨rfl, rfl⟩
  go_wp2_with fail
  refine (close_any s (by omega) _).mono ?_
  rintro e w' ⟨rfl, rfl⟩
  go_wp2_with fail
  refine (close_any (s ++ t) (by simp; omega) _).mono ?_
  rintro e w' ⟨rfl, rfl⟩
  go_wp2_with fail
  refine (zend_any _ _ (by rw [sz1]; omega)).mono ?_
  rintro e w' ⟨rfl, rfl⟩
  go_wp2_with fail
  refine (zend_any t _ (by omega)).mono ?_
  rintro e w' ⟨rfl, rfl⟩
  go_wp2_with fail
  go_ret
  exact ⟨ret_bool (by rw [HF.out]; simp), Grown.refl _⟩

set_option maxHeartbeats 400000 in
theorem law3_d (s t : ByteArray) (h : s.size + t.size ≤ 1048576) (hr : rx (bs s) < 0) (h1 : (rx (bs (s ++ ⟨#[47]⟩)) == (s.size : Int)) = false) (h2 : rx (bs t) < 0) (HF : Hid (rx (bs (s ++ t)) = -1)) (w : World) :
    Calls Try.prog 3 #[.string s, .string t] w fun e w' => e = .returned (.bool true) ∧ Grown w w' := by
  go_enter Try.func3, Try.ntmps3
  go_wp2_with fail
  refine (bytes_yes3 s t h _).mono ?_
  rintro e w' ⟨rfl, rfl⟩
  go_wp2_with fail
  refine (zend_any s _ (by omega)).mono ?_
  rintro e w' ⟨rfl, rfl⟩
  go_wp2_with fail
  refine (zend_any (s ++ t) _ (by simp; omega)).mono ?_
  rintro e w' ⟨rfl, rfl⟩
  go_wp2_with fail
  refine (close_any s (by omega) _).mono ?_
  rintro e w' ⟨rfl, rfl⟩
  go_wp2_with fail
  refine (close_any (s ++ t) (by simp; omega) _).mono ?_
  rintro e w' ⟨rfl, rfl⟩
  go_wp2_with fail
  refine (zend_any _ _ (by rw [sz1]; omega)).mono ?_
  rintro e w' ⟨rfl, rfl⟩
  go_wp2_with fail
  refine (zend_any t _ (by omega)).mono ?_
  rintro e w' ⟨rfl, rfl⟩
  go_wp2_with fail
  go_ret
  exact ⟨ret_bool (by rw [HF.out]; simp), Grown.refl _⟩

theorem law3 (s t : ByteArray) (hs : s.size ≤ 9223372036854775807) (ht : t.size ≤ 9223372036854775807) (w : World) :
    Calls Try.prog 3 #[.string s, .string t] w fun e w' => e = .returned (.bool true) ∧ Grown w w' := by
  by_cases h : s.size + t.size ≤ 1048576
  · by_cases hr : 0 ≤ rx (bs s)
    · exact law3_keep s t h hr (by show _ = _; rw [bs_append]; exact rx_keep _ _ hr) w
    · have e1 : bs (s ++ ⟨#[47]⟩) = bs s ++ [47] := bs_append s ⟨#[47]⟩
      have e2 : bs (⟨#[47]⟩ ++ t) = 47 :: bs t := bs_append ⟨#[47]⟩ t
      have b1 := rx_le (⟨#[47]⟩ ++ t)
      have b2 := rx_le t
      have z1 : ((⟨#[47]⟩ ++ t : ByteArray)).size = t.size + 1 := sz2 t
      have hc := rx_cut (bs s) (bs t) (by omega)
      rw [← e1, ← e2, ← bs_append, bs_len] at hc
      rcases hc with ⟨h1, ⟨h2, h3⟩ | ⟨h2, h3⟩⟩ | ⟨h1, ⟨h2, h3⟩ | ⟨h2, h3⟩⟩
      · exact law3_a s t h (by omega) (by rw [h1]; simp) h2 (by omega) h3 w
      · exact law3_b s t h (by omega) (by rw [h1]; simp) h2 h3 w
      · exact law3_c s t h (by omega) (by simpa using h1) h2 (by omega) h3 w
      · exact law3_d s t h (by omega) (by simpa using h1) h2 h3 w
  · exact law3_long s t hs ht h w
end Go.Proofs.Qxb6632402a

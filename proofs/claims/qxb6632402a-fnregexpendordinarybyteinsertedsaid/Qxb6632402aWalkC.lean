import Derived.Test.Qxb6632402aWalkA
import Derived.BigQuiet
import Derived.Deep.QuietTactic
import Derived.RegionTactic
namespace Go.Proofs.Qxb6632402a
open Go.RowKit

theorem bytes_yes4 (s : ByteArray) (p c : Int) (h : s.size ≤ 1048576) (w : World) :
    Calls Try.prog 8 #[.string s, .int .i64 p, .int .u8 c] w fun e w' => e = .returned (.bool true) ∧ w' = w := by
  go_enter Try.func8, Try.ntmps8
  go_wp2
  go_ret
  exact ⟨rfl, rfl⟩
theorem bytes_no4 (s : ByteArray) (p c : Int) (hs : s.size ≤ 9223372036854775807) (h : ¬ s.size ≤ 1048576) (w : World) :
    Calls Try.prog 8 #[.string s, .int .i64 p, .int .u8 c] w fun e w' => e = .returned (.bool false) ∧ w' = w := by
  go_enter Try.func8, Try.ntmps8
  go_wp2
  all_goals (go_ret; exact ⟨rfl, rfl⟩)

theorem law4_long (s : ByteArray) (p c : Int) (hs : s.size ≤ 9223372036854775807) (h : ¬ s.size ≤ 1048576) (w : World) :
    Calls Try.prog 4 #[.string s, .int .i64 p, .int .u8 c] w fun e w' => e = .returned (.bool true) ∧ Grown w w' := by
  go_enter Try.func4, Try.ntmps4
  go_wp2_with fail
  refine (bytes_no4 s p c hs h _).mono ?_
  rintro e w' ⟨rfl, rfl⟩
  go_wp2_with fail
  go_ret
  exact ⟨rfl, Grown.refl _⟩

/-- p outside 1 .. len(s) -/
theorem law4_out (s : ByteArray) (p c : Int) (h : s.size ≤ 1048576) (hp : p < 1 ∨ s.size < p) (w : World) :
    Calls Try.prog 4 #[.string s, .int .i64 p, .int .u8 c] w fun e w' => e = .returned (.bool true) ∧ Grown w w' := by
  rcases hp with hp | hp
  · go_enter Try.func4, Try.ntmps4
    go_wp2_with fail
    refine (bytes_yes4 s p c h _).mono ?_
    rintro e w' ⟨rfl, rfl⟩
    go_wp2_with fail
    go_ret
    exact ⟨rfl, Grown.refl _⟩
  · have h1 : ¬ p < 1 := by omega
    go_enter Try.func4, Try.ntmps4
    go_wp2_with fail
    refine (bytes_yes4 s p c h _).mono ?_
    rintro e w' ⟨rfl, rfl⟩
    go_wp2_with fail
    go_ret
    exact ⟨rfl, Grown.refl _⟩

/-- behind a backslash -/
theorem law4_behind (s : ByteArray) (p : Nat) (c : Int) (h : s.size ≤ 1048576) (hp : 2 ≤ p) (hp2 : p ≤ s.size) (hb : s[p - 1] = 92) (w : World) :
    Calls Try.prog 4 #[.string s, .int .i64 (p : Int), .int .u8 c] w fun e w' => e = .returned (.bool true) ∧ Grown w w' := by
  have t1 : ((s[p - 1].toNat : Int) == 92) = true := by rw [hb]; rfl
  clear hb
  go_enter Try.func4, Try.ntmps4
  go_wp2_with fail
  refine (bytes_yes4 s p c h _).mono ?_
  rintro e w' ⟨rfl, rfl⟩
  go_wp2_with fail
  go_ret
  exact ⟨rfl, Grown.refl _⟩

/-- c is a slash or a backslash -/
theorem law4_sign (s : ByteArray) (p : Nat) (c : Int) (h : s.size ≤ 1048576) (hp : 1 ≤ p) (hp2 : p ≤ s.size) (hc : c = 47 ∨ c = 92) (hb : 2 ≤ p → s[p - 1] ≠ 92) (w : World) :
    Calls Try.prog 4 #[.string s, .int .i64 (p : Int), .int .u8 c] w fun e w' => e = .returned (.bool true) ∧ Grown w w' := by
  by_cases h2 : 2 ≤ p
  · have t1 : ((s[p - 1].toNat : Int) == 92) = false := by rw [show (92 : Int) = ((92 : UInt8).toNat : Int) from rfl, byte_eq]; simp [hb h2]
    clear hb
    rcases hc with rfl | rfl
    all_goals
      go_enter Try.func4, Try.ntmps4
      go_wp2_with fail
      refine (bytes_yes4 s p _ h _).mono ?_
      rintro e w' ⟨rfl, rfl⟩
      go_wp2_with fail
      go_ret
      exact ⟨rfl, Grown.refl _⟩
  · clear hb
    have h2' : p = 1 := by omega
    subst h2'
    rcases hc with rfl | rfl
    all_goals
      go_enter Try.func4, Try.ntmps4
      go_wp2_with fail
      refine (bytes_yes4 s _ _ h _).mono ?_
      rintro e w' ⟨rfl, rfl⟩
      go_wp2_with fail
      go_ret
      exact ⟨rfl, Grown.refl _⟩

/-- the string of one byte -/
def one (c : Int) : ByteArray := strOfNums [c]
theorem one_conv (c : Int) (w : World) : (convert 26 9 (.slice (some ⟨w.heap.size, 0, none⟩) 1 1)).run Try.prog (w.alloc (.cells #[.int .u8 c] 5)).drew = .ok (.string (one c)) (w.alloc (.cells #[.int .u8 c] 5)).drew := by
  refine run_convert_bytes_arg (P := Try.prog) (w.alloc (.cells #[.int .u8 c] 5)).drew 26 5 Try.underlying26 Try.underlying5 w.heap.size 0 1 1 [c] rfl (fun i hi => ?_) 9 Try.underlying9
  obtain rfl : i = 0 := by omega
  simp

theorem put_size (s : ByteArray) (c : Int) (p : Nat) (h : p ≤ s.size) : (s.extract 0 p ++ one c ++ s.extract p s.size).size = s.size + 1 := by
  have h1 : (one c).size = 1 := strOfNums_size [c]
  rw [ByteArray.size_append, ByteArray.size_append, ByteArray.size_extract, ByteArray.size_extract, h1]
  omega

set_option maxHeartbeats 400000 in
theorem law4_pa (s : ByteArray) (p : Nat) (c : Int) (h : s.size ≤ 1048576) (hp2 : p ≤ s.size) (h2 : 2 ≤ p) (hb : ((s[p - 1].toNat : Int) == 92) = false) (hc : (c == 47) = false) (hc' : (c == 92) = false) (h3 : 0 ≤ rx (bs s)) (h4 : rx (bs s) < (p : Int)) (HF : Hid (rx (bs (s.extract 0 p ++ one c ++ s.extract p s.size)) = rx (bs s))) (w : World) :
    Calls Try.prog 4 #[.string s, .int .i64 (p : Int), .int .u8 c] w fun e w' => e = .returned (.bool true) ∧ Grown w w' := by
  have hcv := one_conv c
  have hone : (one c).size = 1 := strOfNums_size [c]
  go_enter Try.func4, Try.ntmps4
  go_wp2_with fail
  refine (bytes_yes4 s _ c h _).mono ?_
  rintro e w' ⟨rfl, rfl⟩
  go_wp2_with fail
  go_region
  go_wp2_with fail
  refine (zend_any s _ (by omega)).mono ?_
  rintro e w1 ⟨rfl, rfl⟩
  go_wp2_with fail
  refine (zend_any _ _ (by rw [put_size s c _ (by omega)]; omega)).mono ?_
  rintro e w1 ⟨rfl, rfl⟩
  go_wp2_with fail
  refine (close_any s (by omega) _).mono ?_
  rintro e w1 ⟨rfl, rfl⟩
  go_wp2_with fail
  refine (close_any _ (by rw [put_size s c _ (by omega)]; omega) _).mono ?_
  rintro e w1 ⟨rfl, rfl⟩
  go_wp2_with fail
  go_ret
  exact ⟨ret_bool (by rw [HF.out]; simp), by repeat (first | exact Grown.refl _ | apply Grown.drew | apply Grown.alloc)⟩

set_option maxHeartbeats 400000 in
theorem law4_pb (s : ByteArray) (p : Nat) (c : Int) (h : s.size ≤ 1048576) (hp2 : p ≤ s.size) (h2 : 2 ≤ p) (hb : ((s[p - 1].toNat : Int) == 92) = false) (hc : (c == 47) = false) (hc' : (c == 92) = false) (h3 : 0 ≤ rx (bs s)) (h4 : (p : Int) ≤ rx (bs s)) (_h5 : rx (bs s) ≤ 2097152) (HF : Hid (rx (bs (s.extract 0 p ++ one c ++ s.extract p s.size)) = rx (bs s) + 1)) (w : World) :
    Calls Try.prog 4 #[.string s, .int .i64 (p : Int), .int .u8 c] w fun e w' => e = .returned (.bool true) ∧ Grown w w' := by
  have hcv := one_conv c
  have hone : (one c).size = 1 := strOfNums_size [c]
  go_enter Try.func4, Try.ntmps4
  go_wp2_with fail
  refine (bytes_yes4 s _ c h _).mono ?_
  rintro e w' ⟨rfl, rfl⟩
  go_wp2_with fail
  go_region
  go_wp2_with fail
  refine (zend_any s _ (by omega)).mono ?_
  rintro e w1 ⟨rfl, rfl⟩
  go_wp2_with fail
  refine (zend_any _ _ (by rw [put_size s c _ (by omega)]; omega)).mono ?_
  rintro e w1 ⟨rfl, rfl⟩
  go_wp2_with fail
  refine (close_any s (by omega) _).mono ?_
  rintro e w1 ⟨rfl, rfl⟩
  go_wp2_with fail
  refine (close_any _ (by rw [put_size s c _ (by omega)]; omega) _).mono ?_
  rintro e w1 ⟨rfl, rfl⟩
  go_wp2_with fail
  go_ret
  exact ⟨ret_bool (by rw [HF.out]; simp), by repeat (first | exact Grown.refl _ | apply Grown.drew | apply Grown.alloc)⟩

set_option maxHeartbeats 400000 in
theorem law4_pc (s : ByteArray) (p : Nat) (c : Int) (h : s.size ≤ 1048576) (hp2 : p ≤ s.size) (h2 : 2 ≤ p) (hb : ((s[p - 1].toNat : Int) == 92) = false) (hc : (c == 47) = false) (hc' : (c == 92) = false) (h3 : rx (bs s) < 0) (HF : Hid (rx (bs (s.extract 0 p ++ one c ++ s.extract p s.size)) = -1)) (w : World) :
    Calls Try.prog 4 #[.string s, .int .i64 (p : Int), .int .u8 c] w fun e w' => e = .returned (.bool true) ∧ Grown w w' := by
  have hcv := one_conv c
  have hone : (one c).size = 1 := strOfNums_size [c]
  go_enter Try.func4, Try.ntmps4
  go_wp2_with fail
  refine (bytes_yes4 s _ c h _).mono ?_
  rintro e w' ⟨rfl, rfl⟩
  go_wp2_with fail
  go_region
  go_wp2_with fail
  refine (zend_any s _ (by omega)).mono ?_
  rintro e w1 ⟨rfl, rfl⟩
  go_wp2_with fail
  refine (zend_any _ _ (by rw [put_size s c _ (by omega)]; omega)).mono ?_
  rintro e w1 ⟨rfl, rfl⟩
  go_wp2_with fail
  refine (close_any s (by omega) _).mono ?_
  rintro e w1 ⟨rfl, rfl⟩
  go_wp2_with fail
  refine (close_any _ (by rw [put_size s c _ (by omega)]; omega) _).mono ?_
  rintro e w1 ⟨rfl, rfl⟩
  go_wp2_with fail
  go_ret
  exact ⟨ret_bool (by rw [HF.out]; simp), by repeat (first | exact Grown.refl _ | apply Grown.drew | apply Grown.alloc)⟩

set_option maxHeartbeats 400000 in
theorem law4_onea (s : ByteArray)  (c : Int) (h : s.size ≤ 1048576) (hp2 : 1 ≤ s.size) (hc : (c == 47) = false) (hc' : (c == 92) = false) (h3 : 0 ≤ rx (bs s)) (h4 : rx (bs s) < (1 : Int)) (HF : Hid (rx (bs (s.extract 0 1 ++ one c ++ s.extract 1 s.size)) = rx (bs s))) (w : World) :
    Calls Try.prog 4 #[.string s, .int .i64 1, .int .u8 c] w fun e w' => e = .returned (.bool true) ∧ Grown w w' := by
  have hcv := one_conv c
  have hone : (one c).size = 1 := strOfNums_size [c]
  go_enter Try.func4, Try.ntmps4
  go_wp2_with fail
  refine (bytes_yes4 s _ c h _).mono ?_
  rintro e w' ⟨rfl, rfl⟩
  go_wp2_with fail
  go_region
  go_wp2_with fail
  refine (zend_any s _ (by omega)).mono ?_
  rintro e w1 ⟨rfl, rfl⟩
  go_wp2_with fail
  refine (zend_any _ _ (by rw [put_size s c _ (by omega)]; omega)).mono ?_
  rintro e w1 ⟨rfl, rfl⟩
  go_wp2_with fail
  refine (close_any s (by omega) _).mono ?_
  rintro e w1 ⟨rfl, rfl⟩
  go_wp2_with fail
  refine (close_any _ (by rw [put_size s c _ (by omega)]; omega) _).mono ?_
  rintro e w1 ⟨rfl, rfl⟩
  go_wp2_with fail
  go_ret
  exact ⟨ret_bool (by rw [HF.out]; simp), by repeat (first | exact Grown.refl _ | apply Grown.drew | apply Grown.alloc)⟩

set_option maxHeartbeats 400000 in
theorem law4_oneb (s : ByteArray)  (c : Int) (h : s.size ≤ 1048576) (hp2 : 1 ≤ s.size) (hc : (c == 47) = false) (hc' : (c == 92) = false) (h3 : 0 ≤ rx (bs s)) (h4 : (1 : Int) ≤ rx (bs s)) (_h5 : rx (bs s) ≤ 2097152) (HF : Hid (rx (bs (s.extract 0 1 ++ one c ++ s.extract 1 s.size)) = rx (bs s) + 1)) (w : World) :
    Calls Try.prog 4 #[.string s, .int .i64 1, .int .u8 c] w fun e w' => e = .returned (.bool true) ∧ Grown w w' := by
  have hcv := one_conv c
  have hone : (one c).size = 1 := strOfNums_size [c]
  go_enter Try.func4, Try.ntmps4
  go_wp2_with fail
  refine (bytes_yes4 s _ c h _).mono ?_
  rintro e w' ⟨rfl, rfl⟩
  go_wp2_with fail
  go_region
  go_wp2_with fail
  refine (zend_any s _ (by omega)).mono ?_
  rintro e w1 ⟨rfl, rfl⟩
  go_wp2_with fail
  refine (zend_any _ _ (by rw [put_size s c _ (by omega)]; omega)).mono ?_
  rintro e w1 ⟨rfl, rfl⟩
  go_wp2_with fail
  refine (close_any s (by omega) _).mono ?_
  rintro e w1 ⟨rfl, rfl⟩
  go_wp2_with fail
  refine (close_any _ (by rw [put_size s c _ (by omega)]; omega) _).mono ?_
  rintro e w1 ⟨rfl, rfl⟩
  go_wp2_with fail
  go_ret
  exact ⟨ret_bool (by rw [HF.out]; simp), by repeat (first | exact Grown.refl _ | apply Grown.drew | apply Grown.alloc)⟩

set_option maxHeartbeats 400000 in
theorem law4_onec (s : ByteArray)  (c : Int) (h : s.size ≤ 1048576) (hp2 : 1 ≤ s.size) (hc : (c == 47) = false) (hc' : (c == 92) = false) (h3 : rx (bs s) < 0) (HF : Hid (rx (bs (s.extract 0 1 ++ one c ++ s.extract 1 s.size)) = -1)) (w : World) :
    Calls Try.prog 4 #[.string s, .int .i64 1, .int .u8 c] w fun e w' => e = .returned (.bool true) ∧ Grown w w' := by
  have hcv := one_conv c
  have hone : (one c).size = 1 := strOfNums_size [c]
  go_enter Try.func4, Try.ntmps4
  go_wp2_with fail
  refine (bytes_yes4 s _ c h _).mono ?_
  rintro e w' ⟨rfl, rfl⟩
  go_wp2_with fail
  go_region
  go_wp2_with fail
  refine (zend_any s _ (by omega)).mono ?_
  rintro e w1 ⟨rfl, rfl⟩
  go_wp2_with fail
  refine (zend_any _ _ (by rw [put_size s c _ (by omega)]; omega)).mono ?_
  rintro e w1 ⟨rfl, rfl⟩
  go_wp2_with fail
  refine (close_any s (by omega) _).mono ?_
  rintro e w1 ⟨rfl, rfl⟩
  go_wp2_with fail
  refine (close_any _ (by rw [put_size s c _ (by omega)]; omega) _).mono ?_
  rintro e w1 ⟨rfl, rfl⟩
  go_wp2_with fail
  go_ret
  exact ⟨ret_bool (by rw [HF.out]; simp), by repeat (first | exact Grown.refl _ | apply Grown.drew | apply Grown.alloc)⟩

end Go.Proofs.Qxb6632402a

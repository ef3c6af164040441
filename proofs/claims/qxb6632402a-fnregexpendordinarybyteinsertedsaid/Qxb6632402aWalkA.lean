import Derived.Test.Qxb6632402aRows
import Derived.Test.Qxb6632402aMath
import Derived.WalkKit
import Derived.WalkSpells
import Derived.WalkLawsBesides
namespace Go.Proofs.Qxb6632402a
open Go.RowKit
theorem ret_int {k : IntKind} {a b : Int} (h : a = b) : Ending.returned (.int k a) = .returned (.int k b) := by rw [h]
theorem ret_bool {a b : Bool} (h : a = b) : Ending.returned (.bool a) = .returned (.bool b) := by rw [h]

/-- the bytes of a string -/
def bs (s : ByteArray) : List UInt8 := s.data.toList
theorem bs_len (s : ByteArray) : (bs s).length = s.size := by simp [bs]
theorem bs_get (s : ByteArray) (k : Nat) (h : k < s.size) : (bs s)[k]'(by rw [bs_len]; exact h) = s[k] := rfl

theorem byte_eq (c d : UInt8) : ((c.toNat : Int) == (d.toNat : Int)) = (c == d) := by
  rw [Bool.eq_iff_iff, beq_iff_eq, beq_iff_eq, ← UInt8.toNat_inj]
  omega

set_option maxHeartbeats 400000 in
theorem end_any (s : ByteArray) (w : World) (hs : s.size ≤ 2097152) :
    Calls Try.prog 9 #[.string s] w fun e w' => e = .returned (.int .i64 (rx (bs s))) ∧ w' = w := by
  go_enter Try.func9, Try.ntmps9
  go_wp2
  go_loop [3] (fun i => ∃ k : Nat, 1 ≤ k ∧ k ≤ 2097154 ∧ i = .int .i64 k ∧ at_ (bs s) k = rx (bs s)) (fun i => 2097155 - (intOf i).toNat)
  case atStart => exact ⟨1, by omega, by omega, rfl, at_one _⟩
  case round =>
    obtain ⟨k, hk, hk2, rfl, hat⟩ := hrel
    have HA : Hid (at_ (bs s) k = rx (bs s)) := hat
    clear hat
    by_cases hlt : k < s.size
    · have hl : k < (bs s).length := by rw [bs_len]; exact hlt
      by_cases h1 : s[k] = 92
      · have HS := at_back (bs s) k hl h1
        have HH : Hid (at_ (bs s) k = at_ (bs s) (k + 2)) := HS
        have t1 : ((s[k].toNat : Int) == 92) = true := by rw [h1]; rfl
        clear HS h1
        go_wp2
        go_round
        case rel => exact ⟨k + 2, by omega, by omega, by go_num, by rw [← HH.out, HA.out]⟩
        case measure => simp [intOf]; omega
      · have t1 : ((s[k].toNat : Int) == 92) = false := by rw [show (92 : Int) = ((92 : UInt8).toNat : Int) from rfl, byte_eq]; simp [h1]
        by_cases h2 : s[k] = 47
        · have HS := at_slash (bs s) k hl h2
          have HH : Hid (at_ (bs s) k = k) := HS
          have t2 : ((s[k].toNat : Int) == 47) = true := by rw [h2]; rfl
          clear HS h1 h2
          go_wp2
          go_ret
          exact ⟨ret_int (by rw [← HA.out, HH.out]), rfl⟩
        · have t2 : ((s[k].toNat : Int) == 47) = false := by rw [show (47 : Int) = ((47 : UInt8).toNat : Int) from rfl, byte_eq]; simp [h2]
          have HS := at_plain (bs s) k hl h1 h2
          have HH : Hid (at_ (bs s) k = at_ (bs s) (k + 1)) := HS
          clear HS h1 h2
          go_wp2
          go_round
          case rel => exact ⟨k + 1, by omega, by omega, by go_num, by rw [← HH.out, HA.out]⟩
          case measure => simp [intOf]; omega
    · go_wp2
      go_ret
      exact ⟨ret_int (by rw [← HA.out, at_end _ _ (by rw [bs_len]; omega)]), rfl⟩

theorem zend_any (s : ByteArray) (w : World) (hs : s.size ≤ 2097152) :
    Calls Try.prog 6 #[.string s] w fun e w' => e = .returned (.int .i64 (rx (bs s))) ∧ w' = w := by
  go_enter Try.func6, Try.ntmps6
  go_wp2_with fail
  refine (end_any s _ hs).mono ?_
  rintro e w' ⟨rfl, rfl⟩
  go_wp2_with fail
  go_ret
  exact ⟨rfl, rfl⟩

theorem close_no (s : ByteArray) (w : World) : Calls Try.prog 7 #[.string s, .int .i64 (-1)] w fun e w' => e = .returned (.bool true) ∧ w' = w := by
  go_enter Try.func7, Try.ntmps7
  go_wp2
  go_ret
  exact ⟨rfl, rfl⟩
theorem close_yes (s : ByteArray) (k : Nat) (h : k + 1 < s.size) (_hs : s.size ≤ 2097152) (hc : s[k + 1] = 47) (w : World) : Calls Try.prog 7 #[.string s, .int .i64 ((k + 1 : Nat) : Int)] w fun e w' => e = .returned (.bool true) ∧ w' = w := by
  have t1 : ((s[k + 1].toNat : Int) == 47) = true := by rw [hc]; rfl
  clear hc
  go_enter Try.func7, Try.ntmps7
  go_wp2
  go_ret
  exact ⟨rfl, rfl⟩
theorem close_any (s : ByteArray) (hs : s.size ≤ 2097152) (w : World) : Calls Try.prog 7 #[.string s, .int .i64 (rx (bs s))] w fun e w' => e = .returned (.bool true) ∧ w' = w := by
  rcases rx_close (bs s) with e | ⟨k, e, h, hc⟩
  · rw [e]; exact close_no s w
  · rw [e]; exact close_yes s k (by rw [bs_len] at h; exact h) hs hc w
end Go.Proofs.Qxb6632402a

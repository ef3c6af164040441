import Derived.Test.Qxb6632334aRows
import Derived.Test.Qxb6632334aMath
import Derived.WalkKit
import Derived.WalkSpells
import Derived.WalkLawsBesides
namespace Go.Proofs.Qxb6632334a
open Go.RowKit
theorem ret2_int {k : IntKind} {a b c d : Int} (h : a = c) (h2 : b = d) : Ending.returned (.tuple #[.int k a, .int k b]) = .returned (.tuple #[.int k c, .int k d]) := by rw [h, h2]
theorem ret_bool {a b : Bool} (h : a = b) : Ending.returned (.bool a) = .returned (.bool b) := by rw [h]
set_option maxHeartbeats 400000 in
theorem mul_any (a b : Int) (ha : 0 ≤ a) (ha2 : a ≤ 9223372036854775807) (hb : 0 ≤ b) (hb2 : b ≤ 100) (w : World) :
    Calls Try.prog 10 #[.int .u64 a, .int .u64 b] w fun e w' => e = .returned (.tuple #[.int .u64 (a * b / 18446744073709551616), .int .u64 (a * b % 18446744073709551616)]) ∧ w' = w := by
  go_enter Try.func10, Try.ntmps10
  go_wp2
  go_ret2
  exact ⟨ret2_int (mul_hi a b ha ha2 hb hb2) (IntKind.wrap_u64 _), rfl⟩

set_option maxHeartbeats 400000 in
theorem le_any (ah al bh bl : Int) (w : World) :
    Calls Try.prog 11 #[.int .u64 ah, .int .u64 al, .int .u64 bh, .int .u64 bl] w fun e w' => e = .returned (.bool (leB ah al bh bl)) ∧ w' = w := by
  rcases Int.lt_trichotomy ah bh with h | h | h
  · go_enter Try.func11, Try.ntmps11
    go_wp2
    go_ret
    exact ⟨ret_bool (leB_lt h).symm, rfl⟩
  · subst h
    go_enter Try.func11, Try.ntmps11
    go_wp2
    go_ret
    exact ⟨ret_bool leB_eq.symm, rfl⟩
  · go_enter Try.func11, Try.ntmps11
    go_wp2
    go_ret
    exact ⟨ret_bool (by rw [leB_gt h]; simp; omega), rfl⟩

set_option maxHeartbeats 400000 in
theorem floor_any (u p s : Int) (hu : 0 ≤ u) (hu2 : u ≤ 9223372036854775807) (hp : 0 ≤ p) (hp2 : p ≤ 100) (hs : 0 ≤ s) (hs2 : s ≤ 9223372036854775807) (h1 : s * 100 ≤ u * p) (h2 : u * p < s * 100 + 100) (w : World) :
    Calls Try.prog 8 #[.int .u64 u, .int .u64 p, .int .u64 s] w fun e w' => e = .returned (.bool true) ∧ w' = w := by
  have y := le_yes _ _ h1
  by_cases hw : s * 100 % 18446744073709551616 + 100 < 18446744073709551616
  · have n := le_no _ _ h2 hw
    go_enter Try.func8, Try.ntmps8
    go_wp2_with fail
    refine (mul_any s 100 hs hs2 (by omega) (by omega) _).mono ?_
    rintro e w' ⟨rfl, rfl⟩
    go_wp2_with fail
    refine (mul_any u p hu hu2 hp hp2 _).mono ?_
    rintro e w' ⟨rfl, rfl⟩
    go_wp2_with fail
    refine (le_any _ _ _ _ _).mono ?_
    rintro e w' ⟨rfl, rfl⟩
    go_wp2_with fail
    refine (le_any _ _ _ _ _).mono ?_
    rintro e w' ⟨rfl, rfl⟩
    go_wp2_with fail
    go_ret
    exact ⟨rfl, rfl⟩
  · have n := le_no_carry _ _ h2 hw
    have c1 : IntKind.u64.wrap (s * 100 % 18446744073709551616 + 100) < s * 100 % 18446744073709551616 := by rw [IntKind.wrap_u64]; omega
    go_enter Try.func8, Try.ntmps8
    go_wp2_with fail
    refine (mul_any s 100 hs hs2 (by omega) (by omega) _).mono ?_
    rintro e w' ⟨rfl, rfl⟩
    go_wp2_with fail
    refine (mul_any u p hu hu2 hp hp2 _).mono ?_
    rintro e w' ⟨rfl, rfl⟩
    go_wp2_with fail
    refine (le_any _ _ _ _ _).mono ?_
    rintro e w' ⟨rfl, rfl⟩
    go_wp2_with fail
    refine (le_any _ _ _ _ _).mono ?_
    rintro e w' ⟨rfl, rfl⟩
    go_wp2_with fail
    go_ret
    exact ⟨rfl, rfl⟩

/-- the bound on the total length: passed -/
theorem bytes_yes3 (u : Int) (a : Option Addr) (len cap : Nat) (h : len ≤ 65536) (w : World) :
    Calls Try.prog 5 #[.int .i64 u, .slice a len cap] w fun e w' => e = .returned (.bool true) ∧ w' = w := by
  go_enter Try.func5, Try.ntmps5
  go_wp2
  go_ret
  exact ⟨rfl, rfl⟩
theorem bytes_any3 (u : Int) (a : Option Addr) (len cap : Nat) (h : len ≤ 9223372036854775807) (w : World) :
    Calls Try.prog 5 #[.int .i64 u, .slice a len cap] w fun e w' => (∃ b, e = .returned (.bool b)) ∧ w' = w := by
  go_enter Try.func5, Try.ntmps5
  go_wp2
  all_goals (go_ret; exact ⟨⟨_, rfl⟩, rfl⟩)
theorem bytes_yes4 (u : Int) (a : Option Addr) (len cap : Nat) (h : len ≤ 65536) (w : World) :
    Calls Try.prog 9 #[.int .i64 u, .slice a len cap] w fun e w' => e = .returned (.bool true) ∧ w' = w := by
  go_enter Try.func9, Try.ntmps9
  go_wp2
  go_ret
  exact ⟨rfl, rfl⟩
theorem bytes_any4 (u : Int) (a : Option Addr) (len cap : Nat) (h : len ≤ 9223372036854775807) (w : World) :
    Calls Try.prog 9 #[.int .i64 u, .slice a len cap] w fun e w' => (∃ b, e = .returned (.bool b)) ∧ w' = w := by
  go_enter Try.func9, Try.ntmps9
  go_wp2
  all_goals (go_ret; exact ⟨⟨_, rfl⟩, rfl⟩)
end Go.Proofs.Qxb6632334a

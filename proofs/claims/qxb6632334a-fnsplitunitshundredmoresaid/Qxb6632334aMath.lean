import Derived.WalkKit
import Derived.Laws.BitsLemmas
import Derived.Laws.Bits64
namespace Go.Proofs.Qxb6632334a
open Go.RowKit

/-! ### The plain mathematics: nothing of the program. -/
theorem wrap_in (n : Int) (h : 0 ≤ n) (h1 : n ≤ 18446744073709551615) : IntKind.u64.wrap n = n := by rw [IntKind.wrap_u64]; omega
theorem wrap63 (n : Int) (h : 0 ≤ n) (h1 : n < 2 ^ 63) : IntKind.u64.wrap n = n := by rw [IntKind.wrap_u64]; omega
theorem mask32 (x : Int) (h : 0 ≤ x) (h1 : x ≤ 9223372036854775807) : bits BinOp.and IntKind.u64 x 4294967295 = x % 4294967296 := by
  have h := bits_mask .u64 63 (by decide) wrap63 32 (by decide) x h (by omega)
  have e : ((2 : Int) ^ 32 - 1) = 4294967295 := by decide
  have e2 : ((2 : Int) ^ 32) = 4294967296 := by decide
  rw [e, e2] at h
  exact h

/-- the high word of a * b, as mul64 reckons it (b fits one half word, so its own high half is nought) -/
theorem mul_hi (a b : Int) (ha : 0 ≤ a) (ha2 : a ≤ 9223372036854775807) (hb : 0 ≤ b) (hb2 : b ≤ 100) :
    IntKind.u64.wrap (IntKind.u64.wrap (IntKind.u64.wrap (a / 4294967296 * (b / 4294967296)) +
        IntKind.u64.wrap (IntKind.u64.wrap (a / 4294967296 * bits BinOp.and IntKind.u64 b 4294967295) + IntKind.u64.wrap (bits BinOp.and IntKind.u64 a 4294967295 * bits BinOp.and IntKind.u64 b 4294967295) / 4294967296) / 4294967296) +
      IntKind.u64.wrap (bits BinOp.and IntKind.u64 (IntKind.u64.wrap (IntKind.u64.wrap (a / 4294967296 * bits BinOp.and IntKind.u64 b 4294967295) +
          IntKind.u64.wrap (bits BinOp.and IntKind.u64 a 4294967295 * bits BinOp.and IntKind.u64 b 4294967295) / 4294967296)) 4294967295 +
        IntKind.u64.wrap (bits BinOp.and IntKind.u64 a 4294967295 * (b / 4294967296))) / 4294967296) = a * b / 18446744073709551616 := by
  have b0 : b / 4294967296 = 0 := by omega
  have bm : bits BinOp.and IntKind.u64 b 4294967295 = b := by rw [mask32 b hb (by omega)]; omega
  have am := mask32 a ha ha2
  have hab : a * b = (a / 4294967296 * b) * 4294967296 + a % 4294967296 * b := by
    conv => lhs; rw [show a = a / 4294967296 * 4294967296 + a % 4294967296 by omega]
    rw [Int.add_mul, Int.mul_assoc, Int.mul_comm 4294967296 b, ← Int.mul_assoc]
  have x0 : 0 ≤ a % 4294967296 * b := Int.mul_nonneg (by omega) hb
  have x1 : a % 4294967296 * b ≤ 4294967296 * 100 := Int.mul_le_mul (by omega) hb2 hb (by omega)
  have y0 : 0 ≤ a / 4294967296 * b := Int.mul_nonneg (by omega) hb
  have y1 : a / 4294967296 * b ≤ 2147483648 * 100 := Int.mul_le_mul (by omega) hb2 hb (by omega)
  rw [b0, bm, am, hab]
  simp only [Int.mul_zero]
  obtain ⟨X, hX⟩ : ∃ X, X = a % 4294967296 * b := ⟨_, rfl⟩
  obtain ⟨Y, hY⟩ : ∃ Y, Y = a / 4294967296 * b := ⟨_, rfl⟩
  rw [← hX] at x0 x1 ⊢
  rw [← hY] at y0 y1 ⊢
  clear hX hY hab am bm b0
  rw [wrap_in 0 (by omega) (by omega), wrap_in X (by omega) (by omega), wrap_in Y (by omega) (by omega), wrap_in (Y + X / 4294967296) (by omega) (by omega), mask32 (Y + X / 4294967296) (by omega) (by omega),
    wrap_in (0 + (Y + X / 4294967296) / 4294967296) (by omega) (by omega), wrap_in ((Y + X / 4294967296) % 4294967296 + 0) (by omega) (by omega), wrap_in _ (by omega) (by omega)]
  omega

/-- '(ah, al) <= (bh, bl)' as le128 says it -/
def leB (ah al bh bl : Int) : Bool := decide (ah < bh ∨ (ah = bh ∧ al ≤ bl))
theorem leB_lt {ah al bh bl : Int} (h : ah < bh) : leB ah al bh bl = true := by unfold leB; simp [h]
theorem leB_gt {ah al bh bl : Int} (h : bh < ah) : leB ah al bh bl = false := by unfold leB; simp; omega
theorem leB_eq {ah al bl : Int} : leB ah al ah bl = decide (al ≤ bl) := by unfold leB; simp

theorem le_yes (x y : Int) (h : x ≤ y) : leB (x / 18446744073709551616) (x % 18446744073709551616) (y / 18446744073709551616) (y % 18446744073709551616) = true := by unfold leB; simp; omega
theorem le_no (x y : Int) (h : y < x + 100) (hw : x % 18446744073709551616 + 100 < 18446744073709551616) :
    leB (x / 18446744073709551616) (x % 18446744073709551616 + 100) (y / 18446744073709551616) (y % 18446744073709551616) = false := by unfold leB; simp; omega
theorem le_no_carry (x y : Int) (h : y < x + 100) (hw : ¬ x % 18446744073709551616 + 100 < 18446744073709551616) :
    leB (x / 18446744073709551616 + 1) (IntKind.u64.wrap (x % 18446744073709551616 + 100)) (y / 18446744073709551616) (y % 18446744073709551616) = false := by
  rw [IntKind.wrap_u64]; unfold leB; simp; omega

/-- A tranche's share: 'units/100*p + units%100*p/100'. -/
def sh (u p : Int) : Int := u / 100 * p + u % 100 * p / 100

theorem sh_parts (u p : Int) (hu : 0 ≤ u) (hp : 0 ≤ p) (hp2 : p ≤ 100) :
    0 ≤ u / 100 * p ∧ u / 100 * p ≤ u / 100 * 100 ∧ 0 ≤ u % 100 * p ∧ u % 100 * p ≤ u % 100 * 100 ∧ 0 ≤ sh u p ∧ sh u p ≤ u ∧ u * p = 100 * (u / 100 * p) + u % 100 * p := by
  have h1 : 0 ≤ u / 100 * p := Int.mul_nonneg (by omega) hp
  have h2 : u / 100 * p ≤ u / 100 * 100 := Int.mul_le_mul_of_nonneg_left hp2 (by omega)
  have h3 : 0 ≤ u % 100 * p := Int.mul_nonneg (by omega) hp
  have h4 : u % 100 * p ≤ u % 100 * 100 := Int.mul_le_mul_of_nonneg_left hp2 (by omega)
  refine ⟨h1, h2, h3, h4, by unfold sh; omega, by unfold sh; omega, ?_⟩
  conv => lhs; rw [show u = 100 * (u / 100) + u % 100 by omega]
  rw [Int.add_mul, Int.mul_assoc]

/-- it is the floor -/
theorem sh_floor (u p : Int) (hu : 0 ≤ u) (hp : 0 ≤ p) (hp2 : p ≤ 100) : sh u p * 100 ≤ u * p ∧ u * p < sh u p * 100 + 100 := by
  obtain ⟨h1, h2, h3, h4, _, _, h5⟩ := sh_parts u p hu hp hp2
  rw [h5]; unfold sh; omega

theorem sh_more (u p : Int) : sh (u + 100) p = sh u p + p := by
  unfold sh
  have e1 : (u + 100) / 100 = u / 100 + 1 := by omega
  have e2 : (u + 100) % 100 = u % 100 := by omega
  rw [e1, e2, Int.add_mul, Int.one_mul]; omega

/-- what is left behind the first k tranches; what the first k take; what their percents come to: each as int64 wraps it -/
def lft (u : Int) (p : Nat → Int) : Nat → Int
  | 0 => u
  | k + 1 => wrap64 (lft u p k - sh u (p k))
def tot (u : Int) (p : Nat → Int) : Nat → Int
  | 0 => 0
  | k + 1 => wrap64 (tot u p k + sh u (p k))
def pct (p : Nat → Int) : Nat → Int
  | 0 => 0
  | k + 1 => pct p k + p k

theorem w64_lo (n : Int) : -9223372036854775808 ≤ wrap64 n := by unfold wrap64; omega
theorem w64_hi (n : Int) : wrap64 n ≤ 9223372036854775807 := by unfold wrap64; omega
theorem w64_in (n : Int) (h : -9223372036854775808 ≤ n) (h1 : n ≤ 9223372036854775807) : wrap64 n = n := by unfold wrap64; omega

theorem lft_bd (u : Int) (p : Nat → Int) (hu : 0 ≤ u) (hu2 : u ≤ 9223372036854775807) (k : Nat) : -9223372036854775808 ≤ lft u p k ∧ lft u p k ≤ 9223372036854775807 := by
  cases k with
  | zero => unfold lft; omega
  | succ k => exact ⟨w64_lo _, w64_hi _⟩
theorem tot_bd (u : Int) (p : Nat → Int) (k : Nat) : -9223372036854775808 ≤ tot u p k ∧ tot u p k ≤ 9223372036854775807 := by
  cases k with
  | zero => unfold tot; omega
  | succ k => exact ⟨w64_lo _, w64_hi _⟩
theorem pct_bd (p : Nat → Int) (n : Nat) (h : ∀ k, k < n → 0 ≤ p k ∧ p k ≤ 100) (k : Nat) (hk : k ≤ n) : 0 ≤ pct p k ∧ pct p k ≤ 100 * (k : Int) := by
  induction k with
  | zero => unfold pct; omega
  | succ k ih => have := ih (by omega); have := h k (by omega); unfold pct; omega

theorem wrap_sub_add (a b c : Int) : wrap64 (wrap64 (a - b) - c) = wrap64 (a - wrap64 (b + c)) := by unfold wrap64; omega

/-- the last share is what the others leave -/
theorem lft_tot (u : Int) (p : Nat → Int) (hu : 0 ≤ u) (hu2 : u ≤ 9223372036854775807) (k : Nat) : lft u p k = wrap64 (u - tot u p k) := by
  induction k with
  | zero => unfold lft tot; rw [w64_in _ (by omega) (by omega)]; omega
  | succ k ih => unfold lft tot; rw [ih, wrap_sub_add]

theorem tot_lft (u : Int) (p : Nat → Int) (hu : 0 ≤ u) (hu2 : u ≤ 9223372036854775807) (k : Nat) : wrap64 (tot u p k + lft u p k) = u := by
  rw [lft_tot u p hu hu2]; unfold wrap64; omega

theorem wrap_more (l s p q : Int) : wrap64 (wrap64 (wrap64 (l + 100) - q) - (s + p)) = wrap64 (wrap64 (wrap64 (l - s) + 100) - (q + p)) := by unfold wrap64; omega

theorem lft_more (u : Int) (p : Nat → Int) (hu : 0 ≤ u) (hu2 : u ≤ 9223372036854775707) (k : Nat) : lft (u + 100) p k = wrap64 (wrap64 (lft u p k + 100) - pct p k) := by
  induction k with
  | zero => unfold lft pct; rw [w64_in (u + 100) (by omega) (by omega), w64_in _ (by omega) (by omega)]; omega
  | succ k ih => unfold lft pct; rw [ih, sh_more, wrap_more]

end Go.Proofs.Qxb6632334a

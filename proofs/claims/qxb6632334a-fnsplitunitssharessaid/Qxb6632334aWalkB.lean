import Derived.Test.Qxb6632334aWalkA
import Derived.Deep.OwnRows
import Derived.BigQuiet
import Derived.Deep.QuietTactic
import Derived.RegionTactic
namespace Go.Proofs.Qxb6632334a
open Go.RowKit
theorem Try.info32 : (Try.prog.info? 32).map (fun i => (i.zero, i.size, i.bytes)) = some (some (.agg #[.int .i64 0, .int .i64 0]), 2, 16) := by kernel_rfl
theorem Try.info2 : (Try.prog.info? 2).map (fun i => (i.zero, i.size, i.bytes)) = some (some (.int .i64 0), 1, 8) := by kernel_rfl

/-- make([]Tranche, n) in every world -/
theorem make_pairs (n : Nat) (hn : n ≤ 65536) (w : World) : (Instr.makeSlice 28 (.int .i64 (n : Int)) (.int .i64 (n : Int))).run Try.prog w =
    .ok (.slice (some ⟨w.heap.size, 0, none⟩) n n) (w.alloc (.cells (madeCells #[.int .i64 0, .int .i64 0] (n * 2)) 32)) := by
  obtain ⟨i, hi, h0, h1, h2⟩ := info_parts Try.info32
  have hr := run_make (P := Try.prog) w 28 32 i _ Try.underlying28 hi h0 .i64 .i64 n n (by omega) (Int.le_refl _) (by rw [h2]; omega) (by omega)
  rw [h1] at hr
  simpa [Value.cells] using hr

theorem made_pairs (w : World) (n : Nat) : (w.alloc (.cells (madeCells #[.int .i64 0, .int .i64 0] (n * 2)) 32)).rowIs w.heap.size 32 (n * 2) (fun _ => .int .i64 0) := by
  refine ⟨_, Go.Deep.blk_alloc_new _ _, size_madeCells _ _, fun i hi => ?_⟩
  have : i % 2 = 0 ∨ i % 2 = 1 := by omega
  rcases this with h | h <;> simp [madeCells, hi, h]

theorem tt_nil (c : Nat) (w : World) : Calls Try.prog 7 #[.slice none 0 c] w fun e w' => e = .returned (.slice none 0 0) ∧ w' = w := by
  have hnil : ∀ W, (binOp .eql 22 (.slice none 0 c) (.slice none 0 0)).run Try.prog W = .ok (.bool true) W := fun W => Lib.run_eql_slice_nil W _ _ _ _ _ _ _ Try.underlying22
  go_enter Try.func7, Try.ntmps7
  go_wp2
  go_ret
  exact ⟨rfl, rfl⟩

/-- toTranches's copy while k elements are laid -/
def cp (p q : Nat → Int) (k j : Nat) : Value := .int .i64 (if j < k * 2 then (if j % 2 = 0 then p (j / 2) else q (j / 2)) else 0)

theorem cp_zero (p q : Nat → Int) (j : Nat) : cp p q 0 j = .int .i64 0 := by unfold cp; rw [if_neg (by omega)]
theorem cp_step {w : World} {B n k : Nat} (p q : Nat → Int) (h : w.rowIs B 32 n (cp p q k)) :
    ((w.setCell ⟨B, k * 2, none⟩ (.int .i64 (p k))).setCell ⟨B, k * 2 + 1, none⟩ (.int .i64 (q k))).drew.rowIs B 32 n (cp p q (k + 1)) := by
  refine (((h.set (k * 2) (.int .i64 (p k))).set (k * 2 + 1) (.int .i64 (q k))).drew).congr fun j _ => ?_
  show (if j = k * 2 + 1 then _ else if j = k * 2 then _ else _) = _
  unfold cp
  by_cases h1 : j = k * 2 + 1
  · subst h1
    rw [if_pos rfl, if_pos (by omega), if_neg (by omega), show (k * 2 + 1) / 2 = k by omega]
  · rw [if_neg h1]
    by_cases h2 : j = k * 2
    · subst h2
      rw [if_pos rfl, if_pos (by omega), if_pos (by omega), show k * 2 / 2 = k by omega]
    · rw [if_neg h2]
      by_cases h3 : j < k * 2
      · rw [if_pos h3, if_pos (show j < (k + 1) * 2 by omega)]
      · rw [if_neg h3, if_neg (by omega)]

set_option maxHeartbeats 400000 in
theorem tt_any (b off len cap : Nat) (p q : Nat → Int) (w : World) (hl : len ≤ 65536) (hbw : b < w.heap.size)
   (hp : ∀ i, i < len → w.cell? ⟨b, off + i * 2, none⟩ = some (.int .i64 (p i))) (hq : ∀ i, i < len → w.cell? ⟨b, off + i * 2 + 1, none⟩ = some (.int .i64 (q i))) : 
  Calls Try.prog 7 #[.slice (some ⟨b, off, none⟩) len cap] w fun e w' => e = .returned (.slice (some ⟨w.heap.size, 0, none⟩) len len) ∧ w'.rowIs w.heap.size 32 (len * 2) (cp p q len) ∧ Below w.heap.size w w' := by
  have hnil : ∀ W, (binOp .eql 22 (.slice (some ⟨b, off, none⟩) len cap) (.slice none 0 0)).run Try.prog W = .ok (.bool false) W := fun W => Lib.run_eql_slice_nil W _ _ _ _ _ _ _ Try.underlying22
  have hmk := make_pairs len hl
  go_enter Try.func7, Try.ntmps7
  go_wp2_with fail
  go_loopw [4] (fun i wr => ∃ k : Nat, k ≤ len ∧ i = .int .i64 k ∧ wr.rowIs w.heap.size 32 (len * 2) (cp p q k) ∧ Below w.heap.size w wr) (fun i _ => len - (intOf i).toNat)
  case atStart => exact ⟨0, Nat.zero_le _, rfl, (made_pairs w len).congr (fun i _ => (cp_zero p q i).symm), (Below.refl _ _).alloc (Nat.le_refl _) _⟩
  case round =>
    obtain ⟨k, hk, rfl, hrow, hbel⟩ := hrel
    by_cases hlt : k < len
    · have c0 := (hbel.cell (p := ⟨b, off + k * 2, none⟩) hbw).trans (hp k hlt)
      have c1 := (hbel.cell (p := ⟨b, off + k * 2 + 1, none⟩) hbw).trans (hq k hlt)
      have d0 := hrow.cell (i := k * 2) (by omega)
      have d1 := hrow.cell (i := k * 2 + 1) (by omega)
      have f0 := hrow.frozen (k * 2)
      have f1 := hrow.frozen (k * 2 + 1)
      go_wp2
      go_region
      all_goals go_wp2
      all_goals go_roundw
      case rel => exact ⟨k + 1, by omega, by go_num, cp_step p q hrow, ((hbel.setCell (Nat.le_refl _) _).setCell (Nat.le_refl _) _).drew⟩
      case measure => simp [intOf]; omega
    · have : k = len := by omega
      subst this
      go_wp2
      go_ret
      exact ⟨rfl, hrow, hbel⟩

set_option maxHeartbeats 400000 in
theorem tt_empty (x : Addr) (cap : Nat) (w : World) :
    Calls Try.prog 7 #[.slice (some x) 0 cap] w fun e w' => e = .returned (.slice (some ⟨w.heap.size, 0, none⟩) 0 0) ∧ Below w.heap.size w w' := by
  have hnil : ∀ W, (binOp .eql 22 (.slice (some x) 0 cap) (.slice none 0 0)).run Try.prog W = .ok (.bool false) W := fun W => Lib.run_eql_slice_nil W _ _ _ _ _ _ _ Try.underlying22
  have hmk : ∀ w, (Instr.makeSlice 28 (.int .i64 0) (.int .i64 0)).run Try.prog w = .ok (.slice (some ⟨w.heap.size, 0, none⟩) 0 0) (w.alloc (.cells (madeCells #[.int .i64 0, .int .i64 0] (0 * 2)) 32)) := fun w => make_pairs 0 (by omega) w
  go_enter Try.func7, Try.ntmps7
  go_wp2_with fail
  go_loopw [4] (fun i wr => i = .int .i64 0 ∧ Below w.heap.size w wr) (fun _ _ => 0)
  case atStart => exact ⟨rfl, (Below.refl _ _).alloc (Nat.le_refl _) _⟩
  case round =>
    obtain ⟨rfl, hbel⟩ := hrel
    go_wp2
    go_ret
    exact ⟨rfl, hbel⟩
end Go.Proofs.Qxb6632334a

import Derived.Test.Qxb6632566aRows
import Derived.Test.Qxb6632566aBuf
import Derived.WalkKit
import Derived.WalkSpells
import Derived.WalkLawsBesides
import Derived.Deep.OwnRows
import Derived.Laws.CopyOwn
import Derived.BigQuiet
import Derived.Deep.QuietTactic
namespace Go.Proofs.Qxb6632566a
open Go.RowKit
theorem Try.info5 : (Try.prog.info? 5).map (fun i => (i.zero, i.size, i.bytes)) = some (some (.int .u8 0), 1, 1) := by kernel_rfl
theorem Try.size5 : (Try.prog.info? 5).map (·.size) = some 1 := by kernel_rfl

theorem clone_nil (c : Nat) (w : World) : Calls Try.prog 6 #[.slice none 0 c] w fun e w' => e = .returned (.slice none 0 0) ∧ w' = w := by
  have hnil : ∀ W, (binOp .eql 22 (.slice none 0 c) (.slice none 0 0)).run Try.prog W = .ok (.bool true) W := fun W => Lib.run_eql_slice_nil W _ _ _ _ _ _ _ Try.underlying22
  go_enter Try.func6, Try.ntmps6
  go_wp2
  go_ret
  exact ⟨rfl, rfl⟩

/-- a row that holds the bytes xs from its head on -/
theorem ow_row {w : World} {g : Nat} {xs : List Int} (h : w.heap[g]? = some (.cells (xs.map (Value.int .u8)).toArray 5 (0, 0))) (hm : xs.length ≤ maxLen) : Ow w (some ⟨g, 0, none⟩) xs.length xs.length xs := by
  refine ⟨rfl, Nat.le_refl _, hm, fun _ => ⟨g, 0, rfl, (Array.getElem?_eq_some_iff.1 h).1, fun j hj => ?_, fun j hj => ⟨?_, frozen_of_row w g _ _ 5 h⟩⟩⟩
  · rw [Nat.zero_add, cell_of_row w g j _ 5 (0, 0) h]
    simp [List.getD, hj]
  · rw [Nat.zero_add, cell_of_row w g j _ 5 (0, 0) h]
    simp [hj]

/-- copy(r, s), r the new row of n bytes -/
theorem copy_new (x : Addr) (n c : Nat) (xs : List Int) (w : World) (hR : Rd w (some x) n xs) (hn : n ≤ 1048576) :
    ∃ w1, (Builtin.copy_ #[22, 22] 3 #[.slice (some ⟨w.heap.size, 0, none⟩) n n, .slice (some x) n c]).run Try.prog (w.alloc (.cells (madeCells #[.int .u8 0] n) 5)) = .ok (goInt n) w1 ∧ Ow w1 (some ⟨w.heap.size, 0, none⟩) n n xs ∧ Below w.heap.size w w1 ∧ w.heap.size < w1.heap.size := by
  have hlen := hR.1
  have hbel : Below w.heap.size w (w.alloc (.cells (madeCells #[.int .u8 0] n) 5)) := (Below.refl _ _).alloc (Nat.le_refl _) _
  by_cases h0 : n = 0
  · subst h0
    refine ⟨_, run_copy_none (P := Try.prog) _ 22 22 3 5 _ _ 0 0 0 c Try.underlying22 Try.size5 rfl, ⟨hlen, Nat.le_refl _, Nat.zero_le _, fun h => absurd h (by omega)⟩, hbel, by simp⟩
  · obtain ⟨b, off, e, hb, hc⟩ := hR.2 (by omega)
    simp only [Option.some.injEq] at e
    subst e
    have hg := Go.Deep.blk_alloc_new w (.cells (madeCells #[.int .u8 0] n) 5)
    have hrun := run_copy_row (P := Try.prog) (w.alloc (.cells (madeCells #[.int .u8 0] n) 5)) 22 22 3 5 w.heap.size 0 n n ⟨b, off, none⟩ n c _ 5 (xs.map (Value.int .u8)) Try.underlying22 Try.size5 hg (by simp [hlen])
      (fun j v hj => by
        have hj' : j < xs.length := by
          have := (List.getElem?_eq_some_iff.1 hj).1
          simpa using this
        rw [Addr.add_lit, hbel.cell (p := ⟨b, off + j, none⟩) hb, hc j (by omega)]
        simp [hj'] at hj
        rw [← hj]
        simp [List.getD, hj']) (by simp [hlen, size_madeCells]) (ints_oneCell _ _)
    rw [List.length_map, hlen] at hrun
    refine ⟨_, hrun, ?_, below_setRow hbel (Nat.le_refl _) _, by simp [World.setRow]⟩
    have hh := setRow_heap (w.alloc (.cells (madeCells #[.int .u8 0] n) 5)) w.heap.size _ ((madeCells #[Value.int .u8 0] n).toList.take 0 ++ xs.map (Value.int .u8) ++ (madeCells #[Value.int .u8 0] n).toList.drop (0 + n)).toArray 5 (0, 0) hg
    have e1 : (madeCells #[Value.int .u8 0] n).toList.take 0 ++ xs.map (Value.int .u8) ++ (madeCells #[Value.int .u8 0] n).toList.drop (0 + n) = xs.map (Value.int .u8) := by
      rw [List.take_zero, List.nil_append, List.drop_eq_nil_of_le (by simp [size_madeCells]), List.append_nil]
    rw [e1] at hh ⊢
    have := ow_row hh (by unfold maxLen; omega)
    rwa [hlen] at this

set_option maxHeartbeats 400000 in
theorem clone_some (x : Addr) (n c : Nat) (xs : List Int) (w : World) (hR : Rd w (some x) n xs) (hn : n ≤ 1048576) :
    Calls Try.prog 6 #[.slice (some x) n c] w fun e w' => e = .returned (.slice (some ⟨w.heap.size, 0, none⟩) n n) ∧ Ow w' (some ⟨w.heap.size, 0, none⟩) n n xs ∧ Below w.heap.size w w' ∧ w.heap.size < w'.heap.size := by
  have hnil : ∀ W, (binOp .eql 22 (.slice (some x) n c) (.slice none 0 0)).run Try.prog W = .ok (.bool false) W := fun W => Lib.run_eql_slice_nil W _ _ _ _ _ _ _ Try.underlying22
  have hmk := run_make_row' (P := Try.prog) 22 5 _ 1 Try.underlying22 Try.info5 rfl .i64 .i64 n (by omega) (by omega)
  obtain ⟨w1, hcp, ho, hb, hlt⟩ := copy_new x n c xs w hR hn
  go_enter Try.func6, Try.ntmps6
  go_wp2_with fail
  go_ret
  exact ⟨rfl, ho, hb, hlt⟩

theorem clone_any (ao : Option Addr) (n c : Nat) (xs : List Int) (w : World) (hR : Rd w ao n xs) (hn : n ≤ 1048576) :
    Calls Try.prog 6 #[.slice ao n c] w fun e w' => ∃ ao' c', e = .returned (.slice ao' n c') ∧ Ow w' ao' n c' xs ∧ Below w.heap.size w w' ∧ ∀ k, blk ao' k → w.heap.size ≤ k ∧ k < w'.heap.size := by
  cases ao with
  | none =>
    have h0 : n = 0 := by
      by_cases h : n = 0
      · exact h
      · obtain ⟨b, off, e, _⟩ := hR.2 (by omega)
        cases e
    subst h0
    refine (clone_nil c w).mono fun e w' ⟨he, hw⟩ => ⟨none, 0, he, ⟨hR.1, Nat.le_refl _, Nat.zero_le _, fun h => absurd h (by omega)⟩, hw ▸ Below.refl _ _, fun k hk => ?_⟩
    obtain ⟨a, e1, _⟩ := hk
    cases e1
  | some x =>
    refine (clone_some x n c xs w hR hn).mono fun e w' ⟨he, ho, hb, hlt⟩ => ⟨_, n, he, ho, hb, fun k hk => ?_⟩
    obtain ⟨a, e1, e2⟩ := hk
    simp only [Option.some.injEq] at e1
    subst e1
    exact ⟨Nat.le_of_eq e2, e2 ▸ hlt⟩

theorem new_any (ao : Option Addr) (n c : Nat) (w : World) : Calls Try.prog 7 #[.slice ao n c] w fun e w' => e = .returned (.pointer (some ⟨w.heap.size, 0, none⟩)) ∧ w' = w.alloc (.cells #[.slice ao n c] 36) := by
  go_enter Try.func7, Try.ntmps7
  go_wp2
  go_ret
  exact ⟨rfl, rfl⟩

theorem buf_any (T : Nat) (v : Value) (w : World) (hc : w.cell? ⟨T, 0, none⟩ = some v) : Calls Try.prog 10 #[.pointer (some ⟨T, 0, none⟩)] w fun e w' => e = .returned v ∧ w' = w := by
  go_enter Try.func10, Try.ntmps10
  go_wp2
  go_ret
  exact ⟨rfl, rfl⟩
end Go.Proofs.Qxb6632566a

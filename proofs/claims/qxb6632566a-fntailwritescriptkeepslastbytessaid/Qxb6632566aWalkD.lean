import Derived.Test.Qxb6632566aWalkC
namespace Go.Proofs.Qxb6632566a
open Go.RowKit

/-- the slice '.slice ao n _' of slices of bytes: element i is '.slice (A i) (L i) (C i)' and reads as X i -/
def RdR (w : World) (ao : Option Addr) (n : Nat) (A : Nat → Option Addr) (L C : Nat → Nat) (X : Nat → List Int) : Prop :=
  (0 < n → ∃ b off, ao = some ⟨b, off, none⟩ ∧ b < w.heap.size ∧ ∀ i, i < n → w.cell? ⟨b, off + i, none⟩ = some (.slice (A i) (L i) (C i))) ∧ ∀ i, i < n → Rd w (A i) (L i) (X i) ∧ L i ≤ 9223372036854775807

theorem RdR.below {w w' : World} {ao : Option Addr} {n : Nat} {A : Nat → Option Addr} {L C : Nat → Nat} {X : Nat → List Int} (h : RdR w ao n A L C X) (hb : Below w.heap.size w w') : RdR w' ao n A L C X := by
  refine ⟨fun hn => ?_, fun i hi => ⟨(h.2 i hi).1.below hb, (h.2 i hi).2⟩⟩
  obtain ⟨b, off, e, hbw, hc⟩ := h.1 hn
  exact ⟨b, off, e, Nat.lt_of_lt_of_le hbw hb.size, fun i hi => (hb.cell (p := ⟨b, off + i, none⟩) hbw).trans (hc i hi)⟩

def IsB (e : Ending) : Prop := ∃ b, e = .returned (.bool b)
theorem isB_mk (b : Bool) : IsB (.returned (.bool b)) := ⟨b, rfl⟩
theorem bytes4_no (a : Option Addr) (n0 c0 : Nat) (ao : Option Addr) (n c : Nat) (w : World) (h0 : n0 ≤ 9223372036854775807) (hn : n ≤ 9223372036854775807) (h : ¬ n0 + n ≤ 1048576) :
    Calls Try.prog 11 #[.slice a n0 c0, .slice ao n c] w fun e w' => IsB e ∧ w' = w := by
  go_enter Try.func11, Try.ntmps11
  go_wp2_with fail
  all_goals (go_ret; exact ⟨isB_mk _, rfl⟩)

set_option maxHeartbeats 400000 in
theorem bytes4_yes (a : Option Addr) (n0 c0 : Nat) (ao : Option Addr) (n c : Nat) (A : Nat → Option Addr) (L C : Nat → Nat) (X : Nat → List Int) (w : World) (hR : RdR w ao n A L C X) (h : n0 + n ≤ 1048576) :
    Calls Try.prog 11 #[.slice a n0 c0, .slice ao n c] w fun e w' => IsB e ∧ w' = w := by
  go_enter Try.func11, Try.ntmps11
  go_wp2_with fail
  go_loop [5, 6] (fun z i => ∃ k m : Nat, k ≤ n ∧ m ≤ 1048576 ∧ i = .int .i64 k ∧ z = .int .i64 m) (fun _ i => n - (intOf i).toNat)
  case atStart => exact ⟨0, n0 + n, by omega, h, rfl, by go_num⟩
  case round =>
    obtain ⟨k, m, hk, hm, rfl, rfl⟩ := hrel
    by_cases hlt : k < n
    · obtain ⟨b, off, rfl, _, hc⟩ := hR.1 (by omega)
      have c1 := hc k hlt
      have hL := (hR.2 k hlt).2
      clear hc
      by_cases h1 : L k ≤ 1048576
      · by_cases h2 : m + L k ≤ 1048576
        · go_wp2_with fail
          go_round
          case rel => exact ⟨k + 1, m + L k, by omega, h2, by go_num, by go_num⟩
          case measure => simp [intOf]; omega
        · go_wp2_with fail
          go_ret
          exact ⟨isB_mk _, rfl⟩
      · go_wp2_with fail
        go_ret
        exact ⟨isB_mk _, rfl⟩
    · go_wp2_with fail
      go_ret
      exact ⟨isB_mk _, rfl⟩

theorem bytes4 (a : Option Addr) (n0 c0 : Nat) (ao : Option Addr) (n c : Nat) (A : Nat → Option Addr) (L C : Nat → Nat) (X : Nat → List Int) (w : World) (h0 : n0 ≤ 9223372036854775807) (hn : n ≤ 9223372036854775807) (hR : RdR w ao n A L C X) :
    Calls Try.prog 11 #[.slice a n0 c0, .slice ao n c] w fun e w' => IsB e ∧ w' = w := by
  by_cases h : n0 + n ≤ 1048576
  · exact bytes4_yes a n0 c0 ao n c A L C X w hR h
  · exact bytes4_no a n0 c0 ao n c w h0 hn h

/-- zzBytes says no; too wide a b; too many chunks: true at once -/
theorem law4_early (a : Option Addr) (n0 c0 : Nat) (ao : Option Addr) (n c : Nat) (A : Nat → Option Addr) (L C : Nat → Nat) (X : Nat → List Int) (w : World) (h0 : n0 ≤ 9223372036854775807) (hn : n ≤ 9223372036854775807) (hR : RdR w ao n A L C X) (h : ¬ (n0 ≤ 4096 ∧ n ≤ 4096)) :
    Calls Try.prog 4 #[.slice a n0 c0, .slice ao n c] w fun e w' => e = .returned (.bool true) ∧ Below w.heap.size w w' := by
  go_enter Try.func4, Try.ntmps4
  go_wp2_with fail
  refine (bytes4 a n0 c0 ao n c A L C X _ h0 hn hR).mono ?_
  rintro e w' ⟨⟨b, rfl⟩, rfl⟩
  by_cases h1 : n0 ≤ 4096
  · have h2 : ¬ n ≤ 4096 := fun h2 => h ⟨h1, h2⟩
    cases b
    all_goals (go_wp2_with fail; go_ret; exact ⟨rfl, Below.refl _ _⟩)
  · cases b
    all_goals (go_wp2_with fail; go_ret; exact ⟨rfl, Below.refl _ _⟩)
end Go.Proofs.Qxb6632566a

import Derived.Test.Qxb6632334aWalkC
import Derived.ProofKit
import Derived.OpenShut
import Derived.ShutString
import Derived.ChangeOld
import Derived.Below
import Derived.Deep.SlicePairs
namespace Go.Proofs.Qxb6632334a
open Go.ChangeShapes Go.WideShapes Go.ChangeAt Go.RowKit

theorem own : ownKnob Try.prog.godebug = none := by kernel_rfl
theorem laidOut : laidOutB Try.prog = true := by kernel_rfl

/-- what the reading of the argument tells the walk -/
theorem tin {H : Type} {enc : TypeId × Value → H} {W : World} {d : DataW H} {ps : List MemPlace} {a0 : Option Addr} {len cap : Nat}
    (h : DataW.Trod enc Try.prog W 0 (fun _ => true) true 22 (.slice a0 len cap) d ps) :
    ∃ p q, Tin W (.slice a0 len cap) len p q ∧ len ≤ 9223372036854775807 := by
  obtain ⟨fuel, hf⟩ := h
  rcases Go.Deep.open_slice_pairs Try.underlying22 Try.underlying25 (by kernel_rfl) rfl rfl (by kernel_rfl) (by kernel_rfl) hf with ⟨hcs, _⟩ | ⟨a, len', cap', m, n, V0, V1, D0, D1, P0, P1, hcs, _, hl, hm, hmm, _, hc⟩
  · simp [Value.cells] at hcs
    obtain ⟨rfl, rfl, rfl⟩ := hcs
    exact ⟨fun _ => 0, fun _ => 0, .inl ⟨rfl, _, _, rfl⟩, by omega⟩
  · simp [Value.cells] at hcs
    obtain ⟨rfl, rfl, rfl⟩ := hcs
    unfold maxLen at hm
    by_cases h0 : len = 0
    · subst h0
      exact ⟨fun _ => 0, fun _ => 0, .inl ⟨rfl, _, _, rfl⟩, by omega⟩
    · simp only [if_true] at hmm
      subst hmm
      obtain ⟨b, off, spot⟩ := a
      have hspot : spot = none := by simpa [Addr.add] using World.cell?_spot (hc 0 (by omega)).1
      subst hspot
      have hbw : b < W.heap.size := World.block_lt_of_cell? W _ (hc 0 (by omega)).1
      obtain ⟨p, hp⟩ := Go.Deep.choose_lt (α := Int) (p := fun i x => W.cell? ⟨b, off + i * 2, none⟩ = some (.int .i64 x)) (n := len) (fun i hi => by
        obtain ⟨c0, _, r0, _⟩ := hc i (by omega)
        obtain ⟨x, e, _, _⟩ := DataW.trod_int Try.underlying3 r0
        simp only [List.cons.injEq, and_true] at e
        rw [e, add_plain] at c0
        exact ⟨x, c0⟩)
      obtain ⟨q, hq⟩ := Go.Deep.choose_lt (α := Int) (p := fun i x => W.cell? ⟨b, off + i * 2 + 1, none⟩ = some (.int .i64 x)) (n := len) (fun i hi => by
        obtain ⟨_, c0, _, r0⟩ := hc i (by omega)
        obtain ⟨x, e, _, _⟩ := DataW.trod_int Try.underlying3 r0
        simp only [List.cons.injEq, and_true] at e
        rw [e, add_plain, ← Nat.add_assoc] at c0
        exact ⟨x, c0⟩)
      exact ⟨p, q, .inr ⟨by omega, b, off, _, rfl, hbw, hp, hq⟩, by omega⟩

end Go.Proofs.Qxb6632334a

import Derived.Test.Qxb6632566aWalkF
import Derived.ProofKit
import Derived.OpenShut
import Derived.ShutString
import Derived.ChangeOld
import Derived.Below
import Derived.Deep.Matrix
namespace Go.Proofs.Qxb6632566a.fnTailWriteScriptKeepsLastBytes
open Go.ChangeShapes Go.WideShapes Go.ChangeAt Go.RowKit

theorem own : ownKnob Try.prog.godebug = none := by kernel_rfl
theorem laidOut : laidOutB Try.prog = true := by kernel_rfl

/-- a row of bytes in memory, as it is read -/
theorem rd_row {w : World} {x : Addr} {n : Nat} {zs : List Int} (hn : n ≤ zs.length) (hcell : ∀ i, i < n → w.cell? (x.add i) = some (.int .u8 (zs.getD i 0))) : Rd w (some x) n (zs.take n) := by
  refine ⟨by simp; omega, fun h0 => ?_⟩
  obtain ⟨b, off, spot⟩ := x
  have hspot : spot = none := by simpa [Addr.add] using World.cell?_spot (hcell 0 h0)
  subst hspot
  have hb : b < w.heap.size := World.block_lt_of_cell? w _ (hcell 0 h0)
  refine ⟨b, off, rfl, hb, fun j hj => ?_⟩
  have := hcell j hj
  rw [Addr.add_lit] at this
  rw [this]
  simp [List.getD, List.getElem?_take_of_lt hj]

/-- what the reading of a slice of bytes tells the walk -/
theorem rd_of {H : Type} {enc : TypeId × Value → H} {W : World} {d : DataW H} {ps : List MemPlace} {a0 : Option Addr} {len cap : Nat}
    (h : DataW.Trod enc Try.prog W 0 (fun _ => true) true 22 (.slice a0 len cap) d ps) : ∃ xs, Rd W a0 len xs ∧ len ≤ 9223372036854775807 := by
  obtain ⟨fuel, hf⟩ := h
  rcases open_ints Try.underlying22 Try.underlying5 (by kernel_rfl) hf with ⟨hcs, _⟩ | ⟨x, l, c, zs, hcs, _, hl, hm, hz, _, hcell, _⟩
  · simp [Value.cells] at hcs
    obtain ⟨rfl, rfl, rfl⟩ := hcs
    exact ⟨[], ⟨rfl, fun h => absurd h (by omega)⟩, by omega⟩
  · simp [Value.cells] at hcs
    obtain ⟨rfl, rfl, rfl⟩ := hcs
    simp only [if_true] at hz
    unfold maxLen at hm
    exact ⟨_, rd_row (zs := zs) (by omega) (fun i hi => hcell i (by omega)), by omega⟩

/-- what the reading of a slice of slices of bytes tells the walk -/
theorem rdr_of {H : Type} {enc : TypeId × Value → H} {W : World} {d : DataW H} {ps : List MemPlace} {a0 : Option Addr} {len cap : Nat}
    (h : DataW.Trod enc Try.prog W 0 (fun _ => true) true 33 (.slice a0 len cap) d ps) : ∃ A L C X, RdR W a0 len A L C X ∧ len ≤ 9223372036854775807 ∧ (a0 = none → len = 0) := by
  obtain ⟨fuel, hf⟩ := h
  rcases Go.Deep.open_int_rows Try.underlying33 Try.underlying22 Try.underlying5 (by kernel_rfl) (by kernel_rfl) hf with ⟨hcs, _⟩ | ⟨x, l, c, A, L, C, Z, hcs, _, hl, hm, _, hr⟩
  · simp [Value.cells] at hcs
    obtain ⟨rfl, rfl, rfl⟩ := hcs
    exact ⟨fun _ => none, fun _ => 0, fun _ => 0, fun _ => [], ⟨fun h => absurd h (by omega), fun i hi => absurd hi (by omega)⟩, by omega, fun _ => rfl⟩
  · simp [Value.cells] at hcs
    obtain ⟨rfl, rfl, rfl⟩ := hcs
    unfold maxLen at hm hr
    refine ⟨A, L, C, fun i => (Z i).take (L i), ⟨fun h0 => ?_, fun i hi => ?_⟩, by omega, fun e => by cases e⟩
    · obtain ⟨b, off, spot⟩ := x
      have hspot : spot = none := by simpa [Addr.add] using World.cell?_spot (hr 0 (by omega)).1
      subst hspot
      have hb : b < W.heap.size := World.block_lt_of_cell? W _ (hr 0 (by omega)).1
      refine ⟨b, off, rfl, hb, fun i hi => ?_⟩
      have := (hr i (by omega)).1
      rwa [Addr.add_lit] at this
    · obtain ⟨_, r1, r2, r3, _, r5, r6⟩ := hr i (by omega)
      refine ⟨?_, by omega⟩
      cases hA : A i with
      | none =>
        have h0 := r5 hA
        have h1 : L i = 0 := by omega
        exact ⟨by simp [h1], fun h => absurd h (by omega)⟩
      | some a' => exact rd_row (by omega) (fun c hc => (r6 a' hA).2 c (by omega))

theorem walk (a : Option Addr) (n0 c0 : Nat) (ao : Option Addr) (n c : Nat) (xs : List Int) (A : Nat → Option Addr) (L C : Nat → Nat) (X : Nat → List Int) (w : World) (hX : Rd w a n0 xs) (h0 : n0 ≤ 9223372036854775807)
    (hR : RdR w ao n A L C X) (hn : n ≤ 9223372036854775807) (hz : ao = none → n = 0) :
    Calls Try.prog 4 #[.slice a n0 c0, .slice ao n c] w fun e w' => e = .returned (.bool true) ∧ Below w.heap.size w w' := by
  by_cases h : n0 ≤ 4096 ∧ n ≤ 4096
  · cases ao with
    | none =>
      obtain rfl := hz rfl
      exact law4_nil a n0 c0 c xs w hX h.1
    | some x => exact law4_some a n0 c0 x n c xs A L C X w hX hR h.1 h.2
  · exact law4_early a n0 c0 ao n c A L C X w h0 hn hR h

set_option maxRecDepth 100000 in
theorem lifted (os : Os) (started : os.Started) (H : Type) (enc : TypeId × Value → H) :
    ReturnsInHanded {} Try.checked os 4 .any (Rows.fnTailWriteScriptKeepsLastBytesSpec.pre6 enc Try.prog Try.f4 Rows.fnTailWriteScriptKeepsLastBytesRow.domain false) (Rows.fnTailWriteScriptKeepsLastBytesSpec.post enc Try.prog Try.f4 false true false false) := by
  refine returnsInHanded_of_change (C := Try.checked) own started (by kernel_rfl) Try.func4
    (ChangeSpec.witness6 (enc := enc) (C := Try.checked) false ⟨#[], #[.slice none 0 0, .slice none 0 0], []⟩ 8 (by kernel_rfl) (by kernel_rfl) (by kernel_rfl) (by kernel_rfl)) ?_
  intro W base args ds gs before hval0 hW hcnd _
  have hval : ∀ (j : Nat) t v, Try.f4.params[j]? = some t → args[j]? = some v → Value.okWide Try.prog W .any base t v := hval0
  have hW' := hW
  obtain ⟨p, q, hA0, hV, rfl, hfz, hnd⟩ := hW
  have hA : DataW.TrodAll enc Try.prog W 0 (fun _ => true) true Try.f4.params.toList args.toList ds p := hA0
  rw [Try.params4] at hA hval
  obtain ⟨v0, vs0, d0, ds0, p0, q0, hargs, rfl, rfl, h0, r0⟩ := trodAll_cons hA
  obtain ⟨v1, vs1, d1, ds1, p1, q1, rfl, rfl, rfl, h1, r1⟩ := trodAll_cons r0
  obtain ⟨rfl, rfl, rfl⟩ := trodAll_nil r1
  obtain rfl : args = #[v0, v1] := by cases args; simp_all
  obtain ⟨rfl, rfl⟩ := trodVars_none hV
  obtain ⟨a0, len0, cap0, rfl⟩ := okWide_slice Try.underlying22 (hval 0 22 v0 rfl rfl)
  obtain ⟨a1, len1, cap1, rfl⟩ := okWide_slice Try.underlying33 (hval 1 33 v1 rfl rfl)
  have k0 := h0
  have k1 := h1
  have lt0 : ∀ x ∈ p0, x.block < W.heap.size := by obtain ⟨m, hm⟩ := k0; exact DataW.trod_lt m _ _ _ hm
  have lt1 : ∀ x ∈ p1, x.block < W.heap.size := by obtain ⟨m, hm⟩ := k1; exact DataW.trod_lt m _ _ _ hm
  obtain ⟨xs, hX, l0⟩ := rd_of h0
  obtain ⟨A, L, C, X, hR, l1, hz⟩ := rdr_of h1
  clear hA0 hval0
  refine (walk a0 len0 cap0 a1 len1 cap1 xs A L C X W hX l0 hR l1 hz).mono fun e W' ⟨he, bel⟩ => ?_
  subst he
  exact ⟨_, rfl, _, _, _, [], _, [], hW', trodAll_mk1 (shut_bool Try.underlying4 _), (trodAll_cons_mk (Below.trod laidOut (by kernel_rfl) (of_decide_eq_true (by kernel_rfl)) k0 bel lt0) (trodAll_cons_mk (Below.trod laidOut (by kernel_rfl) (of_decide_eq_true (by kernel_rfl)) k1 bel lt1) trodAll_mk0)), rfl, bel.frame _, fun h => by cases h⟩

theorem over : Rows.fnTailWriteScriptKeepsLastBytesRow.holds Try.pinned (OpenSpec.ofChange Rows.fnTailWriteScriptKeepsLastBytesSpec) :=
  OpenClaim.holds_of_wide 4 Try.f4 rfl rfl rfl rfl rfl rfl rfl ⟨rfl, rfl, rfl, rfl, rfl⟩ rfl rfl rfl rfl rfl (by kernel_rfl) Try.func4 (by kernel_rfl)
    (of_decide_eq_true (by kernel_rfl)) (by unfold Func.isWrapper; first | (rw [if_pos (by decide +kernel)]; kernel_rfl) | (rw [if_neg (by decide +kernel)]; exact ⟨rfl, rfl⟩))
    (fun os started H enc _ => lifted os started H enc)

/-- THE STATEMENT -/
theorem proved : Rows.FnTailWriteScriptKeepsLastBytesSaid := over
end Go.Proofs.Qxb6632566a.fnTailWriteScriptKeepsLastBytes

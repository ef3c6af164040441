import Derived.WalkKit
import Derived.Deep.AppendSrc
import Derived.Deep.Upon
namespace Go.Proofs.Qxb6632566a
open Go.RowKit

/-! ### Slices of bytes in memory: read ('Rd'), owned with their spare room ('Ow'); what an operation may turn ('Chg'). Nothing of the program. -/

/-- block k is the one that the slice's address lies in -/
def blk (ao : Option Addr) (k : Nat) : Prop := ∃ a : Addr, ao = some a ∧ a.block = k

/-- of the blocks that were there, only those of S may have turned -/
structure Chg (S : Nat → Prop) (w w' : World) : Prop where
  os : w'.os = w.os
  tape : w'.tape = w.tape
  output : w'.output = w.output
  size : w.heap.size ≤ w'.heap.size
  block : ∀ k, k < w.heap.size → ¬ S k → w'.heap[k]? = w.heap[k]?

theorem Chg.refl (S : Nat → Prop) (w : World) : Chg S w w := ⟨rfl, rfl, rfl, Nat.le_refl _, fun _ _ _ => rfl⟩
theorem Chg.trans {S : Nat → Prop} {a b c : World} (h : Chg S a b) (k : Chg S b c) : Chg S a c :=
  ⟨k.os.trans h.os, k.tape.trans h.tape, k.output.trans h.output, Nat.le_trans h.size k.size, fun i hi hs => (k.block i (Nat.lt_of_lt_of_le hi h.size) hs).trans (h.block i hi hs)⟩
theorem Chg.mono {S T : Nat → Prop} {w w' : World} (h : Chg S w w') (hst : ∀ k, k < w.heap.size → S k → T k) : Chg T w w' :=
  ⟨h.os, h.tape, h.output, h.size, fun k hk ht => h.block k hk fun hs => ht (hst k hk hs)⟩
theorem Chg.below {S : Nat → Prop} {w w' : World} (h : Chg S w w') {B : Nat} (hB : B ≤ w.heap.size) (hS : ∀ k, S k → B ≤ k) : Below B w w' :=
  ⟨h.os, h.tape, h.output, h.size, fun k hk => h.block k (by omega) fun hs => by have := hS k hs; omega⟩
theorem Chg.ofBelow {S : Nat → Prop} {w w' : World} (h : Below w.heap.size w w') : Chg S w w' := ⟨h.os, h.tape, h.output, h.size, fun k hk _ => h.block k hk⟩

/-- the slice '.slice ao n _' reads as the bytes xs -/
def Rd (w : World) (ao : Option Addr) (n : Nat) (xs : List Int) : Prop :=
  xs.length = n ∧ (0 < n → ∃ b off, ao = some ⟨b, off, none⟩ ∧ b < w.heap.size ∧ ∀ j, j < n → w.cell? ⟨b, off + j, none⟩ = some (.int .u8 (xs.getD j 0)))

/-- the slice '.slice ao n c' reads as the bytes xs, and its spare room may be written -/
def Ow (w : World) (ao : Option Addr) (n c : Nat) (xs : List Int) : Prop :=
  xs.length = n ∧ n ≤ c ∧ c ≤ maxLen ∧ (0 < c → ∃ g off, ao = some ⟨g, off, none⟩ ∧ g < w.heap.size ∧ (∀ j, j < n → w.cell? ⟨g, off + j, none⟩ = some (.int .u8 (xs.getD j 0))) ∧
    ∀ j, j < c → (w.cell? ⟨g, off + j, none⟩).isSome = true ∧ w.frozen? ⟨g, off + j, none⟩ = false)

theorem Ow.rd {w : World} {ao : Option Addr} {n c : Nat} {xs : List Int} (h : Ow w ao n c xs) : Rd w ao n xs := by
  obtain ⟨h1, h2, _, h3⟩ := h
  refine ⟨h1, fun hn => ?_⟩
  obtain ⟨g, off, e, hg, hc, _⟩ := h3 (by omega)
  exact ⟨g, off, e, hg, hc⟩

theorem Rd.kept {S : Nat → Prop} {w w' : World} {ao : Option Addr} {n : Nat} {xs : List Int} (h : Rd w ao n xs) (hc : Chg S w w') (hS : ∀ k, blk ao k → ¬ S k) : Rd w' ao n xs := by
  refine ⟨h.1, fun hn => ?_⟩
  obtain ⟨b, off, rfl, hb, hcell⟩ := h.2 hn
  have e := hc.block b hb (hS b ⟨_, rfl, rfl⟩)
  exact ⟨b, off, rfl, Nat.lt_of_lt_of_le hb hc.size, fun j hj => (World.cell?_of_block (a := ⟨b, off + j, none⟩) e).trans (hcell j hj)⟩

theorem Ow.kept {S : Nat → Prop} {w w' : World} {ao : Option Addr} {n c : Nat} {xs : List Int} (h : Ow w ao n c xs) (hc : Chg S w w') (hS : ∀ k, blk ao k → ¬ S k) : Ow w' ao n c xs := by
  refine ⟨h.1, h.2.1, h.2.2.1, fun hn => ?_⟩
  obtain ⟨b, off, rfl, hb, hcell, hsp⟩ := h.2.2.2 hn
  have e := hc.block b hb (hS b ⟨_, rfl, rfl⟩)
  exact ⟨b, off, rfl, Nat.lt_of_lt_of_le hb hc.size, fun j hj => (World.cell?_of_block (a := ⟨b, off + j, none⟩) e).trans (hcell j hj),
    fun j hj => ⟨by rw [World.cell?_of_block (a := ⟨b, off + j, none⟩) e]; exact (hsp j hj).1, (World.frozen?_of_block (a := ⟨b, off + j, none⟩) e).trans (hsp j hj).2⟩⟩

/-- a cut from k on -/
theorem Ow.cut {w : World} {g off n c : Nat} {xs : List Int} (h : Ow w (some ⟨g, off, none⟩) n c xs) (k : Nat) (hk : k ≤ n) : Ow w (some ⟨g, off + k, none⟩) (n - k) (c - k) (xs.drop k) := by
  obtain ⟨h1, h2, h3, h4⟩ := h
  refine ⟨by simp [h1], by omega, by omega, fun hn => ?_⟩
  obtain ⟨g', off', e, hg, hc, hs⟩ := h4 (by omega)
  simp only [Option.some.injEq, Addr.mk.injEq, and_true] at e
  obtain ⟨rfl, rfl⟩ := e
  refine ⟨g, off + k, rfl, hg, fun j hj => ?_, fun j hj => ?_⟩
  · rw [Nat.add_assoc, hc (k + j) (by omega)]
    simp [List.getD]
  · rw [Nat.add_assoc]; exact hs (k + j) (by omega)

theorem cells_src (P : Program) {w : World} {t e : TypeId} (ht : P.underlying t = some (.slice e)) {ao : Option Addr} {n c : Nat} {xs : List Int} (h : Rd w ao n xs) : Src P 1 t (.slice ao n c) n (xs.map (Value.int .u8)) w := by
  obtain ⟨h1, h2⟩ := h
  by_cases h0 : n = 0
  · subst h0
    obtain rfl : xs = [] := List.eq_nil_of_length_eq_zero h1
    cases ao with
    | none => exact Src.ofNil w ht c
    | some a => exact Src.ofSlice w ht a 0 c [] (by simp) (fun j u hj => by simp at hj) (fun u hu => by cases hu)
  · obtain ⟨b, off, rfl, _, hc⟩ := h2 (by omega)
    refine Src.ofSlice w ht ⟨b, off, none⟩ n c _ (by simp [h1]) (fun j u hj => ?_) (ints_oneCell _ _)
    have hj' : j < xs.length := by
      have := (List.getElem?_eq_some_iff.1 hj).1
      simpa using this
    rw [Addr.add_lit, hc j (by omega)]
    simp [hj'] at hj
    rw [← hj]
    simp [List.getD, hj']

theorem setCells_heap (b : Nat) : ∀ (vs : List Value) (o : Nat) (w : World), (w.setCells b o vs).os = w.os ∧ (w.setCells b o vs).tape = w.tape ∧ (w.setCells b o vs).output = w.output ∧ (w.setCells b o vs).heap.size = w.heap.size ∧
    ∀ k, k ≠ b → (w.setCells b o vs).heap[k]? = w.heap[k]?
  | [], _, w => ⟨rfl, rfl, rfl, rfl, fun _ _ => rfl⟩
  | v :: r, o, w => by
    obtain ⟨h1, h2, h3, h4, h5⟩ := setCells_heap b r (o + 1) (w.setCell ⟨b, o, none⟩ v)
    refine ⟨h1, h2, h3, h4.trans (by simp [World.setCell]), fun k hk => (h5 k hk).trans (Below.heap_setCell w _ _ k hk)⟩

/-- append, whatever is appended: there is room, or there is none -/
theorem run_append_ow {P : Program} (w : World) (t ty e : TypeId) (i : TypeInfo) (ht : P.underlying t = some (.slice e)) (hi : P.info? e = some i) (hz : i.zero = some (.int .u8 0)) (hs1 : i.size = 1) (hb1 : i.bytes = 1)
    {ao : Option Addr} {n c : Nat} {xs : List Int} (hO : Ow w ao n c xs) {px : Option Addr} {pn pc : Nat} {ys : List Int} (hR : Rd w px pn ys) (hbd : n + pn ≤ 1099511627776) :
    ∃ ao' c' w', (Builtin.append_ #[t, t] ty #[.slice ao n c, .slice px pn pc]).run P w = .ok (.slice ao' (n + pn) c') w' ∧ Ow w' ao' (n + pn) c' (xs ++ ys) ∧ Chg (blk ao) w w' ∧ ∀ k, blk ao' k → blk ao k ∨ (w.heap.size ≤ k ∧ k < w'.heap.size) := by
  have hsrc := cells_src P (c := pc) ht hR
  obtain ⟨o1, o2, o3, o4⟩ := hO
  have r1 := hR.1
  by_cases h0 : pn = 0
  · subst h0
    obtain rfl : ys = [] := List.eq_nil_of_length_eq_zero r1
    refine ⟨ao, c, w, run_append_nothing w t t ty e i ht hi ao n c o2 _ (by rw [hs1]; exact hsrc), ?_, Chg.refl _ _, fun k hk => .inl hk⟩
    rw [List.append_nil]
    exact ⟨o1, o2, o3, o4⟩
  · by_cases hr : n + pn ≤ c
    · obtain ⟨g, off, rfl, hg, hc, hsp⟩ := o4 (by omega)
      have hrun := run_append_room_src w t t ty e i ht hi g off n c (.slice px pn pc) pn _ (by rw [hs1]; exact hsrc) hr
        (fun j hj => by rw [hs1, Nat.mul_one, Nat.add_assoc]; simp [r1] at hj; exact (hsp (n + j) (by omega)).1) (fun j hj => by rw [hs1, Nat.mul_one, Nat.add_assoc]; simp [r1] at hj; exact (hsp (n + j) (by omega)).2)
      rw [hs1, Nat.mul_one] at hrun
      obtain ⟨q1, q2, q3, q4, q5⟩ := setCells_heap g (ys.map (Value.int .u8)) (off + n) w
      refine ⟨_, c, _, hrun, ⟨by simp [o1, r1], hr, o3, fun _ => ⟨g, off, rfl, by rw [q4]; exact hg, fun j hj => ?_, fun j hj => ?_⟩⟩, ⟨q1, q2, q3, by rw [q4]; exact Nat.le_refl _, fun k hk hs => q5 k (fun e => hs ⟨_, rfl, e.symm⟩)⟩, fun k hk => .inl hk⟩
      · by_cases hjn : j < n
        · rw [World.cell?_setCells_out g _ _ _ _ (fun _ _ => .inl (by show off + j < off + n; omega)), hc j hjn]
          simp [List.getD, List.getElem?_append_left (show j < xs.length by omega)]
        · have hin := World.cell?_setCells_in g (ys.map (Value.int .u8)) (off + n) w (fun j hj => by rw [Nat.add_assoc]; simp [r1] at hj; exact (hsp (n + j) (by omega)).1) (j - n) (by simp [r1]; omega)
          rw [show off + n + (j - n) = off + j by omega] at hin
          rw [hin]
          have hj2 : j - n < ys.length := by omega
          simp [List.getD, List.getElem?_append_right (show xs.length ≤ j by omega), o1, hj2]
      · refine ⟨?_, by rw [World.frozen?_setCells]; exact (hsp j hj).2⟩
        by_cases hjn : j < n ∨ n + pn ≤ j
        · rw [World.cell?_setCells_out g _ _ _ _ (fun _ _ => by simp [r1]; omega)]
          exact (hsp j hj).1
        · have hin := World.cell?_setCells_in g (ys.map (Value.int .u8)) (off + n) w (fun j hj => by rw [Nat.add_assoc]; simp [r1] at hj; exact (hsp (n + j) (by omega)).1) (j - n) (by simp [r1]; omega)
          rw [show off + n + (j - n) = off + j by omega] at hin
          rw [hin]; rfl
    · have hm : n + pn ≤ maxLen := by unfold maxLen; omega
      have hold : (Builtin.firstCells i.size n (.slice ao n c)).run P w.drew = .ok (xs.map (Value.int .u8)).toArray w.drew := by
        rw [hs1]
        exact (cells_src P (c := c) ht (Ow.rd ⟨o1, o2, o3, o4⟩)).cellsD
      have hrun := run_append_grow_src w t t ty e i _ ht hi hz ao n c (xs.map (Value.int .u8)) hold (.slice px pn pc) pn _ (by rw [hs1]; exact hsrc) (by omega) (by omega) (by
        have := growslice_fits (need := n + pn) (old := c) (bytes := i.bytes) (by omega) (by rw [hb1]; omega)
        exact this)
      have hge := grownCap_ge w (n + pn) c e
      have hle := grownCap_le_maxLen w (n + pn) c e hm
      refine ⟨_, _, _, hrun, ⟨by simp [o1, r1], hge, hle, fun _ => ⟨w.heap.size, 0, rfl, by simp, fun j hj => ?_, fun j hj => ?_⟩⟩, ⟨rfl, rfl, rfl, by simp, fun k hk _ => Below.heap_alloc w.drew _ k hk⟩, fun k hk => ?_⟩
      · rw [Nat.zero_add]
        have hj3 : j < (xs ++ ys).length := by simp [o1, r1]; omega
        have hj4 : j < (xs ++ ys).toArray.size := by simpa using hj3
        rw [cell_of_row (w.drew.alloc _) w.heap.size j _ e (0, 0) (heap_alloc_new w.drew _)]
        rw [← List.map_append, Array.getElem?_append_left (by simpa using hj4), List.getElem?_toArray, List.getElem?_map, List.getElem?_eq_getElem hj3]
        simp only [Option.map_some, List.getD, List.getElem?_eq_getElem hj3, Option.getD_some]
      · rw [Nat.zero_add]
        refine ⟨?_, frozen_of_row (w.drew.alloc _) w.heap.size j _ e (heap_alloc_new w.drew _)⟩
        rw [cell_of_row (w.drew.alloc _) w.heap.size j _ e (0, 0) (heap_alloc_new w.drew _)]
        have hz1 : (Value.int IntKind.u8 0).cells.size = 1 := rfl
        have hsz : j < ((xs.map (Value.int .u8) ++ ys.map (Value.int .u8)).toArray ++ Builtin.zeroCells (Value.int IntKind.u8 0).cells (grownCap w (n + pn) c e - (n + pn))).size := by
          rw [Array.size_append, size_zeroCells, hz1]
          simp [o1, r1]
          omega
        rw [Array.getElem?_eq_getElem hsz]
        rfl
      · obtain ⟨a, e1, e2⟩ := hk
        right
        simp only [Option.some.injEq] at e1
        subst e1
        simp only at e2
        subst e2
        exact ⟨Nat.le_refl _, by simp⟩

/-- .. as a law for the walk -/
theorem wpList_append_ow {P : Program} (w : World) {ops : Array Oper} {rest : List Oper} {o : Oper} {a : Act} {Q : Exit → Act → World → Prop}
    (hg : o.guard = none) (s x : Operand) (t : TypeId) (hop : o.op = Op.call { callee := Callee.builtin Builtin.append, args := #[s, x], argTypes := #[t, t] })
    (e : TypeId) (ht : P.underlying t = some (.slice e)) (hinfo : (P.info? e).map (fun i => (i.zero, i.size, i.bytes)) = some (some (.int .u8 0), 1, 1))
    {ao : Option Addr} {n c : Nat} {xs : List Int} {px : Option Addr} {pn pc : Nat} {ys : List Int} (hs : a.eval s = .slice ao n c) (hx : a.eval x = .slice px pn pc)
    (hO : Ow w ao n c xs) (hR : Rd w px pn ys) (hbd : n + pn ≤ 1099511627776)
    (hK : ∀ ao' c' w', Ow w' ao' (n + pn) c' (xs ++ ys) → Chg (blk ao) w w' → (∀ k, blk ao' k → blk ao k ∨ (w.heap.size ≤ k ∧ k < w'.heap.size)) → wpList P ops Q rest (a.put o.dst (.slice ao' (n + pn) c')) w') :
    wpList P ops Q (o :: rest) a w := by
  obtain ⟨i, hi, h0, h1, h2⟩ := info_parts hinfo
  refine wpList_plain hg fun K hK' => ?_
  obtain ⟨ao', c', w', hrun, r1, r2, r3⟩ := run_append_ow (P := P) w t o.type e i ht hi h0 h1 h2 hO (pc := pc) hR hbd
  unfold Oper.wp
  simp [execOp, hop, resolve, invoke, builtin, hs, hx, hrun, Result.andThen]
  exact hK' _ _ (hK ao' c' w' r1 r2 r3)

end Go.Proofs.Qxb6632566a

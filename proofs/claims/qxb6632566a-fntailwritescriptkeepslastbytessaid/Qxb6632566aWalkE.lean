import Derived.Test.Qxb6632566aWalkD
namespace Go.Proofs.Qxb6632566a
open Go.RowKit

theorem Try.info22 : (Try.prog.info? 22).map (fun i => (i.zero, i.size, i.bytes)) = some (some (.slice none 0 0), 1, 24) := by kernel_rfl

/-- the first k lengths together; the first k chunks laid end to end -/
def tt (L : Nat → Nat) : Nat → Nat
  | 0 => 0
  | k + 1 => tt L k + L k
def flat (X : Nat → List Int) : Nat → List Int
  | 0 => []
  | k + 1 => flat X k ++ X k
theorem tt_le (L : Nat → Nat) {k n : Nat} (h : k ≤ n) : tt L k ≤ tt L n := by
  induction n with
  | zero => obtain rfl : k = 0 := by omega
            exact Nat.le_refl _
  | succ n ih =>
    by_cases e : k = n + 1
    · subst e; exact Nat.le_refl _
    · have := ih (by omega)
      show tt L k ≤ tt L n + L n
      omega
theorem tt_at (L : Nat → Nat) {k n : Nat} (h : k < n) : tt L k + L k ≤ tt L n := tt_le L (k := k + 1) h

/-- what a copy's cell holds while k chunks are copied -/
def csv (A : Nat → Option Addr) (L C : Nat → Nat) (k j : Nat) : Value := if j < k then .slice (A j) (L j) (C j) else .slice none 0 0

/-- while the chunks are copied -/
structure Mid (w1 wr : World) (n k : Nat) (A : Nat → Option Addr) (L C : Nat → Nat) (X : Nat → List Int) : Prop where
  row : wr.rowIs w1.heap.size 22 n (csv A L C k)
  rd : ∀ j, j < k → Rd wr (A j) (L j) (X j) ∧ ∀ m, blk (A j) m → w1.heap.size < m
  below : Below w1.heap.size w1 wr

theorem mid_start (w1 : World) (n : Nat) (A : Nat → Option Addr) (L C : Nat → Nat) (X : Nat → List Int) : Mid w1 (w1.alloc (.cells (madeCells #[.slice none 0 0] n) 22)) n 0 A L C X :=
  ⟨(World.rowIs_made w1 (.slice none 0 0) n 22).congr (fun j _ => by unfold csv; rw [if_neg (by omega)]), fun j hj => absurd hj (by omega), (Below.refl _ _).alloc (Nat.le_refl _) _⟩

theorem mid_step {w1 wr w' : World} {n k : Nat} {A : Nat → Option Addr} {L C : Nat → Nat} {X : Nat → List Int} (h : Mid w1 wr n k A L C X) {a' : Option Addr} {c' : Nat} (hO : Ow w' a' (L k) c' (X k)) (hb : Below wr.heap.size wr w')
    (hF : ∀ m, blk a' m → wr.heap.size ≤ m ∧ m < w'.heap.size) :
    Mid w1 (w'.setCell ⟨w1.heap.size, k, none⟩ (.slice a' (L k) c')) n (k + 1) (fun j => if j = k then a' else A j) L (fun j => if j = k then c' else C j) X := by
  have hlt := h.row.lt
  have hrow : w'.rowIs w1.heap.size 22 n (csv A L C k) := h.row.of_block (hb.block _ hlt)
  have hch : Chg (fun m => m = w1.heap.size) w' (w'.setCell ⟨w1.heap.size, k, none⟩ (.slice a' (L k) c')) := ⟨rfl, rfl, rfl, by simp [World.setCell], fun m _ hm => Below.heap_setCell w' _ _ m hm⟩
  refine ⟨(hrow.set k _).congr fun j _ => ?_, fun j hj => ?_, (h.below.trans (hb.mono (Nat.le_of_lt hlt))).setCell (Nat.le_refl _) _⟩
  · show (if j = k then _ else _) = _
    unfold csv
    by_cases e : j = k
    · subst e; simp
    · simp only [if_neg e]
      by_cases e2 : j < k
      · rw [if_pos e2, if_pos (by omega)]
      · rw [if_neg e2, if_neg (by omega)]
  · by_cases e : j = k
    · subst e
      simp only [if_true]
      refine ⟨hO.rd.kept hch (fun m hm e2 => ?_), fun m hm => ?_⟩
      · have := (hF m hm).1; omega
      · have := (hF m hm).1; omega
    · simp only [if_neg e]
      obtain ⟨r1, r2⟩ := h.rd j (by omega)
      exact ⟨(r1.below hb).kept hch (fun m hm e2 => by have := r2 m hm; omega), r2⟩

/-- all are copied -/
theorem mid_end {w1 wr : World} {n : Nat} {A : Nat → Option Addr} {L C : Nat → Nat} {X : Nat → List Int} (h : Mid w1 wr n n A L C X) (hL : ∀ i, i < n → L i ≤ 1048576) : RdR wr (some ⟨w1.heap.size, 0, none⟩) n A L C X := by
  refine ⟨fun hn => ⟨w1.heap.size, 0, rfl, h.row.lt, fun i hi => ?_⟩, fun i hi => ⟨(h.rd i hi).1, by have := hL i hi; omega⟩⟩
  rw [Nat.zero_add, h.row.cell hi]
  unfold csv
  rw [if_pos hi]

/-- while the script runs: zs has been written -/
structure Run (w2 wr : World) (T : Nat) (aA : Option Addr) (nA cA : Nat) (aT : Option Addr) (zs : List Int) : Prop where
  all : Ow wr aA nA cA zs
  tail : Tail wr T aT (last zs)
  dis : ∀ m, blk aA m → w2.heap.size ≤ m ∧ m < wr.heap.size ∧ m ≠ T ∧ ¬ blk aT m
  tfro : ∀ m, blk aT m → w2.heap.size ≤ m ∧ m < wr.heap.size
  hT : w2.heap.size ≤ T
  below : Below w2.heap.size w2 wr

theorem tail_lt {w : World} {T : Nat} {ao : Option Addr} {xs : List Int} (h : Tail w T ao xs) : T < w.heap.size := by
  obtain ⟨_, _, _, _, h, _⟩ := h
  exact h
theorem tail_kept {S : Nat → Prop} {w w' : World} {T : Nat} {ao : Option Addr} {xs : List Int} (h : Tail w T ao xs) (hc : Chg S w w') (hT : ¬ S T) (hS : ∀ k, blk ao k → ¬ S k) : Tail w' T ao xs := by
  obtain ⟨n, c, h1, h2, h3, h4, h5⟩ := h
  have e := hc.block T h3 hT
  exact ⟨n, c, (World.cell?_of_block (a := ⟨T, 0, none⟩) e).trans h1, (World.frozen?_of_block (a := ⟨T, 0, none⟩) e).trans h2, Nat.lt_of_lt_of_le h3 hc.size, h4, h5.kept hc hS⟩

/-- behind the Write -/
theorem run_write {w2 wr w' : World} {T : Nat} {aA : Option Addr} {nA cA : Nat} {aT aT' : Option Addr} {zs ys : List Int} (h : Run w2 wr T aA nA cA aT zs) (hT' : Tail w' T aT' (last (last zs ++ ys))) (hC : Chg (fun k => k = T ∨ blk aT k) wr w')
    (hF : ∀ k, blk aT' k → blk aT k ∨ (wr.heap.size ≤ k ∧ k < w'.heap.size)) :
    Ow w' aA nA cA zs ∧ Tail w' T aT' (last (zs ++ ys)) ∧ (∀ m, blk aA m → w2.heap.size ≤ m ∧ m < w'.heap.size ∧ m ≠ T ∧ ¬ blk aT' m) ∧ (∀ m, blk aT' m → w2.heap.size ≤ m ∧ m < w'.heap.size) ∧ Below w2.heap.size w2 w' := by
  have hs := hC.size
  have hs2 := h.below.size
  refine ⟨h.all.kept hC fun k hk hS => ?_, by rw [last_last] at hT'; exact hT', fun m hm => ?_, fun m hm => ?_, h.below.trans (hC.below h.below.size fun k hk => ?_)⟩
  · have := h.dis k hk
    rcases hS with e | e
    · exact this.2.2.1 e
    · exact this.2.2.2 e
  · have := h.dis m hm
    refine ⟨this.1, by omega, this.2.2.1, fun e => ?_⟩
    rcases hF m e with e | e
    · exact this.2.2.2 e
    · omega
  · rcases hF m hm with e | e
    · have := h.tfro m e; omega
    · omega
  · rcases hk with e | e
    · have := h.hT; omega
    · exact (h.tfro k e).1

/-- behind the append -/
theorem run_append {w2 w' w'' : World} {T : Nat} {aA aA' : Option Addr} {cA' nB : Nat} {aT' : Option Addr} {zs ys : List Int} (hO : Ow w'' aA' nB cA' (zs ++ ys)) (hTl : Tail w' T aT' (last (zs ++ ys))) (hC : Chg (blk aA) w' w'')
    (hF : ∀ k, blk aA' k → blk aA k ∨ (w'.heap.size ≤ k ∧ k < w''.heap.size)) (hdis : ∀ m, blk aA m → w2.heap.size ≤ m ∧ m < w'.heap.size ∧ m ≠ T ∧ ¬ blk aT' m) (htf : ∀ m, blk aT' m → w2.heap.size ≤ m ∧ m < w'.heap.size)
    (hT : w2.heap.size ≤ T) (hb : Below w2.heap.size w2 w') : Run w2 w'' T aA' nB cA' aT' (zs ++ ys) := by
  have hs := hC.size
  have hTw := tail_lt hTl
  refine ⟨hO, tail_kept hTl hC (fun e => (hdis T e).2.2.1 rfl) (fun k hk e => (hdis k e).2.2.2 hk), fun m hm => ?_, fun m hm => ?_, hT, hb.trans (hC.below hb.size fun k hk => (hdis k hk).1)⟩
  · rcases hF m hm with e | e
    · have := hdis m e
      exact ⟨this.1, by omega, this.2.2.1, this.2.2.2⟩
    · have hbs := hb.size
      exact ⟨by omega, e.2, by omega, fun e2 => by have := htf m e2; omega⟩
  · have := htf m hm; omega

theorem run_drew {w2 wr : World} {T : Nat} {aA : Option Addr} {nA cA : Nat} {aT : Option Addr} {zs : List Int} (h : Run w2 wr T aA nA cA aT zs) (q : Nat) : Run w2 (wr.drewN q) T aA nA cA aT zs :=
  ⟨h.all.below (below_drewN (Below.refl _ _) q), h.tail.below (below_drewN (Below.refl _ _) q), h.dis, h.tfro, h.hT, below_drewN h.below q⟩

theorem run_start {w2 w3 w4 : World} {aA aT : Option Addr} {n0 cA cT : Nat} {xs : List Int} (hO3 : Ow w3 aA n0 cA xs) (hB3 : Below w2.heap.size w2 w3) (hF3 : ∀ k, blk aA k → w2.heap.size ≤ k ∧ k < w3.heap.size) (hO4 : Ow w4 aT n0 cT xs)
    (hB4 : Below w3.heap.size w3 w4) (hF4 : ∀ k, blk aT k → w3.heap.size ≤ k ∧ k < w4.heap.size) (hx : xs.length ≤ 4096) (X : Nat → List Int) : Run w2 (w4.alloc (.cells #[.slice aT n0 cT] 36)) w4.heap.size aA n0 cA aT (xs ++ flat X 0) := by
  have e : xs ++ flat X 0 = xs := List.append_nil xs
  have s3 := hB3.size
  have s4 := hB4.size
  have b5 : Below w4.heap.size w4 (w4.alloc (.cells #[.slice aT n0 cT] 36)) := (Below.refl _ _).alloc (Nat.le_refl _) _
  have s5 : (w4.alloc (.cells #[.slice aT n0 cT] 36)).heap.size = w4.heap.size + 1 := by simp
  rw [e]
  refine ⟨(hO3.below hB4).below b5, ?_, fun m hm => ?_, fun m hm => ?_, by omega, (hB3.trans (hB4.mono s3)).trans (b5.mono (by omega))⟩
  · rw [last_short xs hx]; exact new_tail hO4 (fun k hk => (hF4 k hk).2)
  · have := hF3 m hm
    exact ⟨this.1, by omega, by omega, fun e2 => by have := hF4 m e2; omega⟩
  · have := hF4 m hm; omega

theorem flat_len (X : Nat → List Int) (L : Nat → Nat) (n : Nat) (h : ∀ j, j < n → (X j).length = L j) (k : Nat) (hk : k ≤ n) : (flat X k).length = tt L k := by
  induction k with
  | zero => rfl
  | succ k ih =>
    show (flat X k ++ X k).length = tt L k + L k
    rw [List.length_append, ih (by omega), h k (by omega)]
end Go.Proofs.Qxb6632566a

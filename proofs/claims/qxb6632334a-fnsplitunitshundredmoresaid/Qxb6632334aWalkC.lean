import Derived.Test.Qxb6632334aWalkB
namespace Go.Proofs.Qxb6632334a
open Go.RowKit

/-- SplitUnits's answer while k shares are laid -/
def spl (u : Int) (p : Nat → Int) (k j : Nat) : Value := .int .i64 (if j < k then sh u (p j) else 0)
/-- .. and whole -/
def spt (u : Int) (p : Nat → Int) (len j : Nat) : Value := .int .i64 (if j + 1 < len then sh u (p j) else lft u p (len - 1))

theorem spl_zero (u : Int) (p : Nat → Int) (j : Nat) : spl u p 0 j = .int .i64 0 := by unfold spl; rw [if_neg (by omega)]
theorem spl_step {w : World} {B n k : Nat} (u : Int) (p : Nat → Int) (h : w.rowIs B 2 n (spl u p k)) :
    (w.setCell ⟨B, k, none⟩ (.int .i64 (sh u (p k)))).rowIs B 2 n (spl u p (k + 1)) := by
  refine (h.set k _).congr fun j _ => ?_
  show (if j = k then _ else _) = _
  unfold spl
  by_cases h1 : j = k
  · subst h1
    rw [if_pos rfl, if_pos (by omega)]
  · rw [if_neg h1]
    by_cases h3 : j < k
    · rw [if_pos h3, if_pos (by omega)]
    · rw [if_neg h3, if_neg (by omega)]
theorem spl_last {w : World} {B n k : Nat} (u : Int) (p : Nat → Int) (h : w.rowIs B 2 n (spl u p k)) (hk : k + 1 = n) :
    (w.setCell ⟨B, k, none⟩ (.int .i64 (lft u p k))).rowIs B 2 n (spt u p n) := by
  refine (h.set k _).congr fun j hj => ?_
  show (if j = k then _ else _) = _
  unfold spt spl
  subst hk
  by_cases h1 : j = k
  · subst h1
    rw [if_pos rfl, if_neg (by omega)]; rfl
  · rw [if_neg h1, if_pos (by omega), if_pos (by omega)]

theorem split_empty (u : Int) (p : Nat → Int) (a : Option Addr) (cap : Nat) (w : World) :
    Calls Try.prog 6 #[.int .i64 u, .slice a 0 cap] w fun e w' => e = .returned (.slice (some ⟨w.heap.size, 0, none⟩) 0 0) ∧ w'.rowIs w.heap.size 2 0 (spt u p 0) ∧ Below w.heap.size w w' := by
  have hmk : ∀ w, (Instr.makeSlice 26 (.int .i64 0) (.int .i64 0)).run Try.prog w = .ok (.slice (some ⟨w.heap.size, 0, none⟩) 0 0) (w.alloc (.cells (madeCells #[.int .i64 0] 0) 2)) :=
    run_make_row' (P := Try.prog) 26 2 _ 8 Try.underlying26 Try.info2 rfl .i64 .i64 0 (by omega) (by omega)
  go_enter Try.func6, Try.ntmps6
  go_wp2_with fail
  go_loopw [16] (fun i wr => i = .int .i64 0 ∧ wr.rowIs w.heap.size 2 0 (spt u p 0) ∧ Below w.heap.size w wr) (fun _ _ => 0)
  case atStart => exact ⟨rfl, (World.rowIs_made w _ 0 2).congr (fun i h => absurd h (by omega)), (Below.refl _ _).alloc (Nat.le_refl _) _⟩
  case round =>
    obtain ⟨rfl, hbel⟩ := hrel
    go_wp2
    go_ret
    exact ⟨rfl, hbel⟩

set_option maxHeartbeats 400000 in
theorem split_any (u : Int) (b off len cap : Nat) (p q : Nat → Int) (w : World) (hl : len ≤ 65536) (hl0 : 0 < len) (hbw : b < w.heap.size) (hu : 0 ≤ u) (hu2 : u ≤ 9223372036854775807)
    (hpc : ∀ i, i + 1 < len → 0 ≤ p i ∧ p i ≤ 100)
    (hp : ∀ i, i < len → w.cell? ⟨b, off + i * 2, none⟩ = some (.int .i64 (p i))) (hq : ∀ i, i < len → w.cell? ⟨b, off + i * 2 + 1, none⟩ = some (.int .i64 (q i))) :
    Calls Try.prog 6 #[.int .i64 u, .slice (some ⟨b, off, none⟩) len cap] w fun e w' => e = .returned (.slice (some ⟨w.heap.size, 0, none⟩) len len) ∧ w'.rowIs w.heap.size 2 len (spt u p len) ∧ Below w.heap.size w w' := by
  have hmk := run_make_row' (P := Try.prog) 26 2 _ 8 Try.underlying26 Try.info2 rfl .i64 .i64 len (by omega) (by omega)
  go_enter Try.func6, Try.ntmps6
  go_wp2_with fail
  go_loopw [6, 16] (fun l i wr => ∃ k : Nat, k < len ∧ i = .int .i64 k ∧ l = .int .i64 (lft u p k) ∧ wr.rowIs w.heap.size 2 len (spl u p k) ∧ Below w.heap.size w wr) (fun _ i _ => len - (intOf i).toNat)
  case atStart => exact ⟨0, hl0, rfl, rfl, (World.rowIs_made w _ len 2).congr (fun i _ => (spl_zero u p i).symm), (Below.refl _ _).alloc (Nat.le_refl _) _⟩
  case round =>
    obtain ⟨k, hlt, rfl, rfl, hrow, hbel⟩ := hrel
    have c0 := (hbel.cell (p := ⟨b, off + k * 2, none⟩) hbw).trans (hp k hlt)
    have c1 := (hbel.cell (p := ⟨b, off + k * 2 + 1, none⟩) hbw).trans (hq k hlt)
    have d0 := hrow.cell (i := k) (by omega)
    have f0 := hrow.frozen k
    have hsz := hbel.size
    have hBn := hrow.lt
    by_cases hlast : k + 1 = len
    · go_wp2
      go_ret
      exact ⟨rfl, (spl_last u p hrow hlast).alloc _, (hbel.setCell (Nat.le_refl _) _).alloc (by simp [World.setCell]; omega) _⟩
    · obtain ⟨hp0, hp1⟩ := hpc k (by omega)
      obtain ⟨s1, s2, s3, s4, s5, s6, _⟩ := sh_parts u (p k) hu hp0 hp1
      go_wp2
      go_roundw
      case rel => exact ⟨k + 1, by omega, by go_num, rfl, (spl_step u p hrow).alloc _, (hbel.setCell (Nat.le_refl _) _).alloc (by simp [World.setCell]; omega) _⟩
      case measure => simp [intOf]; omega

/-- what is known of a slice of pairs of ints: it is empty, or its cells lie in memory -/
def Tin (w : World) (v : Value) (len : Nat) (p q : Nat → Int) : Prop :=
  (len = 0 ∧ ∃ a c, v = .slice a 0 c) ∨
  (0 < len ∧ ∃ b off cap, v = .slice (some ⟨b, off, none⟩) len cap ∧ b < w.heap.size ∧ (∀ i, i < len → w.cell? ⟨b, off + i * 2, none⟩ = some (.int .i64 (p i))) ∧ ∀ i, i < len → w.cell? ⟨b, off + i * 2 + 1, none⟩ = some (.int .i64 (q i)))

theorem Tin.below {w w' : World} {v : Value} {len : Nat} {p q : Nat → Int} (h : Tin w v len p q) (hb : Below w.heap.size w w') : Tin w' v len p q := by
  rcases h with h | ⟨h0, b, off, cap, rfl, hbw, hp, hq⟩
  · exact .inl h
  · exact .inr ⟨h0, b, off, cap, rfl, Nat.lt_of_lt_of_le hbw hb.size, fun i hi => (hb.cell (p := ⟨b, _, none⟩) hbw).trans (hp i hi), fun i hi => (hb.cell (p := ⟨b, _, none⟩) hbw).trans (hq i hi)⟩

theorem tt_all (v : Value) (len : Nat) (p q : Nat → Int) (w : World) (hl : len ≤ 65536) (h : Tin w v len p q) :
    Calls Try.prog 7 #[v] w fun e w' => ∃ v', e = .returned v' ∧ Tin w' v' len p q ∧ Below w.heap.size w w' := by
  rcases h with ⟨rfl, a, c, rfl⟩ | ⟨h0, b, off, cap, rfl, hbw, hp, hq⟩
  · cases a with
    | none => exact (tt_nil c w).mono fun e w' ⟨he, hw⟩ => ⟨_, he, .inl ⟨rfl, _, _, rfl⟩, hw ▸ Below.refl _ _⟩
    | some x => exact (tt_empty x c w).mono fun e w' ⟨he, hw⟩ => ⟨_, he, .inl ⟨rfl, _, _, rfl⟩, hw⟩
  · refine (tt_any b off len cap p q w hl hbw hp hq).mono fun e w' ⟨he, hr, hw⟩ => ⟨_, he, .inr ⟨h0, w.heap.size, 0, len, rfl, hr.lt, fun i hi => ?_, fun i hi => ?_⟩, hw⟩
    · rw [Nat.zero_add, hr.cell (by omega)]; unfold cp; rw [if_pos (by omega), if_pos (by omega), show i * 2 / 2 = i by omega]
    · rw [Nat.zero_add, hr.cell (by omega)]; unfold cp; rw [if_pos (by omega), if_neg (by omega), show (i * 2 + 1) / 2 = i by omega]

theorem split_all (u : Int) (v : Value) (len : Nat) (p q : Nat → Int) (w : World) (hl : len ≤ 65536) (hu : 0 ≤ u) (hu2 : u ≤ 9223372036854775807) (hpc : ∀ i, i + 1 < len → 0 ≤ p i ∧ p i ≤ 100) (h : Tin w v len p q) :
    Calls Try.prog 6 #[.int .i64 u, v] w fun e w' => e = .returned (.slice (some ⟨w.heap.size, 0, none⟩) len len) ∧ w'.rowIs w.heap.size 2 len (spt u p len) ∧ Below w.heap.size w w' := by
  rcases h with ⟨rfl, a, c, rfl⟩ | ⟨h0, b, off, cap, rfl, hbw, hp, hq⟩
  · exact split_empty u p a c w
  · exact split_any u b off len cap p q w hl h0 hbw hu hu2 hpc hp hq
end Go.Proofs.Qxb6632334a

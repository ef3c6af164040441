import Derived.Test.Qxb6632334aWalkC
namespace Go.Proofs.Qxb6632334a
open Go.RowKit

/-- more than 65536 tranches: true at once -/
theorem law4_long (u : Int) (a : Option Addr) (len cap : Nat) (w : World) (h : ¬ len ≤ 65536) (hm : len ≤ 9223372036854775807) :
    Calls Try.prog 4 #[.int .i64 u, .slice a len cap] w fun e w' => e = .returned (.bool true) ∧ Below w.heap.size w w' := by
  go_enter Try.func4, Try.ntmps4
  go_wp2_with fail
  refine (bytes_any4 u a len cap hm _).mono ?_
  rintro e w' ⟨⟨b, rfl⟩, rfl⟩
  go_wp2_with fail
  all_goals (go_ret; exact ⟨rfl, Below.refl _ _⟩)

/-- units outside 0 .. MaxInt64-100: true at once -/
theorem law4_out (u : Int) (a : Option Addr) (len cap : Nat) (w : World) (h : len ≤ 65536) (hu : u < 0 ∨ 9223372036854775707 < u) :
    Calls Try.prog 4 #[.int .i64 u, .slice a len cap] w fun e w' => e = .returned (.bool true) ∧ Below w.heap.size w w' := by
  rcases hu with hu | hu
  · go_enter Try.func4, Try.ntmps4
    go_wp2_with fail
    refine (bytes_yes4 u a len cap h _).mono ?_
    rintro e w' ⟨rfl, rfl⟩
    go_wp2_with fail
    all_goals (go_ret; exact ⟨rfl, Below.refl _ _⟩)
  · have h0 : ¬ u < 0 := by omega
    go_enter Try.func4, Try.ntmps4
    go_wp2_with fail
    refine (bytes_yes4 u a len cap h _).mono ?_
    rintro e w' ⟨rfl, rfl⟩
    go_wp2_with fail
    all_goals (go_ret; exact ⟨rfl, Below.refl _ _⟩)

/-- no tranche -/
theorem law4_none (u : Int) (a : Option Addr) (cap : Nat) (w : World) (hu : 0 ≤ u) (hu2 : u ≤ 9223372036854775707) :
    Calls Try.prog 4 #[.int .i64 u, .slice a 0 cap] w fun e w' => e = .returned (.bool true) ∧ Below w.heap.size w w' := by
  go_enter Try.func4, Try.ntmps4
  go_wp2_with fail
  refine (bytes_yes4 u a 0 cap (by omega) _).mono ?_
  rintro e w' ⟨rfl, rfl⟩
  go_wp2_with fail
  go_loop [5] (fun i => i = .int .i64 0) (fun _ => 0)
  case atStart => rfl
  case round =>
    obtain rfl := hrel
    go_wp2_with fail
    refine (tt_all _ 0 (fun _ => 0) (fun _ => 0) _ (by omega) (.inl ⟨rfl, _, _, rfl⟩)).mono ?_
    rintro e w1 ⟨v, rfl, ht, hb⟩
    go_wp2_with fail
    refine (split_all u v 0 _ _ w1 (by omega) (by omega) (by omega) (fun i hi => absurd hi (by omega)) ht).mono ?_
    rintro e w2 ⟨rfl, hr, hb2⟩
    go_wp2_with fail
    refine (tt_all _ 0 (fun _ => 0) (fun _ => 0) _ (by omega) (.inl ⟨rfl, _, _, rfl⟩)).mono ?_
    rintro e w3 ⟨v3, rfl, ht3, hb3⟩
    go_wp2_with fail
    refine (split_all (u + 100) v3 0 _ _ w3 (by omega) (by omega) (by omega) (fun i hi => absurd hi (by omega)) ht3).mono ?_
    rintro e w4 ⟨rfl, hr4, hb4⟩
    go_wp2_with fail
    go_ret
    exact ⟨rfl, (hb.trans (hb2.mono hb.size)).trans ((hb3.mono (Nat.le_trans hb.size hb2.size)).trans (hb4.mono (Nat.le_trans hb.size (Nat.le_trans hb2.size hb3.size))))⟩

theorem rowIs_below {w w' : World} {B : Nat} {t : TypeId} {n : Nat} {f : Nat → Value} (h : w.rowIs B t n f) (hb : Below w.heap.size w w') : w'.rowIs B t n f := h.of_block (hb.block B h.lt)

set_option maxHeartbeats 400000 in
theorem law4_some (u : Int) (b off len cap : Nat) (p q : Nat → Int) (w : World) (hl : len ≤ 65536) (hl0 : 0 < len) (hbw : b < w.heap.size) (hu : 0 ≤ u) (hu2 : u ≤ 9223372036854775707)
    (hp : ∀ i, i < len → w.cell? ⟨b, off + i * 2, none⟩ = some (.int .i64 (p i))) (hq : ∀ i, i < len → w.cell? ⟨b, off + i * 2 + 1, none⟩ = some (.int .i64 (q i))) :
    Calls Try.prog 4 #[.int .i64 u, .slice (some ⟨b, off, none⟩) len cap] w fun e w' => e = .returned (.bool true) ∧ Below w.heap.size w w' := by
  go_enter Try.func4, Try.ntmps4
  go_wp2_with fail
  refine (bytes_yes4 u _ len cap hl _).mono ?_
  rintro e w' ⟨rfl, rfl⟩
  go_wp2_with fail
  go_loop [5] (fun i => ∃ k : Nat, k < len ∧ i = .int .i64 k ∧ ∀ j, j < k → 0 ≤ p j ∧ p j ≤ 100) (fun i => len - (intOf i).toNat)
  case atStart => exact ⟨0, hl0, rfl, fun j h => absurd h (by omega)⟩
  case round =>
    obtain ⟨k, hk, rfl, hpk⟩ := hrel
    by_cases hlt : k + 1 < len
    · have c0 := hp k hk
      by_cases h1 : p k < 0
      · go_wp2_with fail
        go_ret
        exact ⟨rfl, Below.refl _ _⟩
      · by_cases h2 : 100 < p k
        · go_wp2_with fail
          go_ret
          exact ⟨rfl, Below.refl _ _⟩
        · go_wp2_with fail
          go_round
          case rel => exact ⟨k + 1, hlt, by go_num, fun j hj => by rcases Nat.lt_succ_iff_lt_or_eq.1 hj with h | rfl; exact hpk j h; omega⟩
          case measure => simp [intOf]; omega
    · have hpc : ∀ i, i + 1 < len → 0 ≤ p i ∧ p i ≤ 100 := fun i hi => hpk i (by omega)
      clear hpk
      go_wp2_with fail
      refine (tt_all _ len p q _ hl (.inr ⟨hl0, b, off, cap, rfl, hbw, hp, hq⟩)).mono ?_
      rintro e w1 ⟨v, rfl, ht, hb⟩
      go_wp2_with fail
      refine (split_all u v len p q w1 hl (by omega) (by omega) hpc ht).mono ?_
      rintro e w2 ⟨rfl, hr, hb2⟩
      have hB2 : Below w'.heap.size w' w2 := hb.trans (hb2.mono hb.size)
      have hT2 : Tin w2 (.slice (some ⟨b, off, none⟩) len cap) len p q := Tin.below (.inr ⟨hl0, b, off, cap, rfl, hbw, hp, hq⟩) hB2
      go_wp2_with fail
      refine (tt_all _ len p q _ hl hT2).mono ?_
      rintro e w3 ⟨v3, rfl, ht3, hb3⟩
      go_wp2_with fail
      refine (split_all (u + 100) v3 len p q w3 hl (by omega) (by omega) hpc ht3).mono ?_
      rintro e w4 ⟨rfl, hr4, hb4⟩
      have hb34 : Below w2.heap.size w2 w4 := hb3.trans (hb4.mono hb3.size)
      have hB : Below w'.heap.size w' w4 := hB2.trans (hb34.mono hB2.size)
      have hr2 : w4.rowIs w1.heap.size 2 len (spt u p len) := rowIs_below hr hb34
      have hz : ((len : Int) == 0) = false := by simp; omega
      clear hk hlt hr hT2 ht ht3 hb hb2 hb3 hb4 hb34 hB2
      go_wp2_with fail
      go_loopw [9, 10, 11] (fun s t i wr => ∃ k n : Nat, k < len ∧ i = .int .i64 k ∧ s = .int .i64 (tot u p k) ∧ t = .int .i64 (pct p k) ∧ wr = w4.drewN n) (fun _ _ i _ => len - (intOf i).toNat)
      case atStart => exact ⟨0, 0, hl0, rfl, rfl, rfl, rfl⟩
      case round =>
        obtain ⟨m, nn, hm, rfl, rfl, rfl, rfl⟩ := hrel
        have hg2 := hr2.cell hm
        have hg4 := hr4.cell hm
        by_cases hlt : m + 1 < len
        · obtain ⟨hp0, hp1⟩ := hpc m hlt
          obtain ⟨_, _, _, _, s5, s6, _⟩ := sh_parts u (p m) (by omega) hp0 hp1
          obtain ⟨q1, q2⟩ := pct_bd p (len - 1) (fun k hk => hpc k (by omega)) m (by omega)
          have c0 := (hB.cell (p := ⟨b, off + m * 2, none⟩) hbw).trans (hp m hm)
          have h2' : w4.cell? ⟨w1.heap.size, m, none⟩ = some (.int .i64 (sh u (p m))) := by rw [hg2]; unfold spt; rw [if_pos hlt]
          have h4' : w4.cell? ⟨w3.heap.size, m, none⟩ = some (.int .i64 (sh u (p m) + p m)) := by rw [hg4]; unfold spt; rw [if_pos hlt, sh_more]
          clear hg2 hg4
          go_wp2_with fail
          go_quiet (fail)
          go_wp2_with fail
          go_roundw
          case rel => exact ⟨m + 1, _, hlt, by go_num, rfl, rfl, rfl⟩
          case measure => simp [intOf]; omega
        · have hm1 : m = len - 1 := by omega
          have h2' : w4.cell? ⟨w1.heap.size, len - 1, none⟩ = some (.int .i64 (lft u p (len - 1))) := by rw [← hm1, hg2]; unfold spt; rw [if_neg hlt, hm1]
          have h4' : w4.cell? ⟨w3.heap.size, len - 1, none⟩ = some (.int .i64 (lft (u + 100) p (len - 1))) := by rw [← hm1, hg4]; unfold spt; rw [if_neg hlt, hm1]
          have hfin1 : (wrap64 (tot u p m + lft u p (len - 1)) == u) = true := by rw [hm1, tot_lft u p hu (by omega)]; simp
          have hfin2 : (lft (u + 100) p (len - 1) == wrap64 (wrap64 (lft u p (len - 1) + 100) - pct p m)) = true := by rw [hm1, ← lft_more u p hu hu2]; simp
          clear hg2 hg4 hm1
          go_wp2_with fail
          go_quiet (fail)
          go_wp2_with fail
          go_ret
          exact ⟨rfl, ⟨hB.os, hB.tape, hB.output, hB.size, hB.block⟩⟩
end Go.Proofs.Qxb6632334a

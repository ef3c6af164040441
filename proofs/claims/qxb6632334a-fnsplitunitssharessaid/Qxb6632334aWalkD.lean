import Derived.Test.Qxb6632334aWalkC
namespace Go.Proofs.Qxb6632334a
open Go.RowKit

/-- more than 65536 tranches: true at once -/
theorem law3_long (u : Int) (a : Option Addr) (len cap : Nat) (w : World) (h : ¬ len ≤ 65536) (hm : len ≤ 9223372036854775807) :
    Calls Try.prog 3 #[.int .i64 u, .slice a len cap] w fun e w' => e = .returned (.bool true) ∧ Below w.heap.size w w' := by
  go_enter Try.func3, Try.ntmps3
  go_wp2_with fail
  refine (bytes_any3 u a len cap hm _).mono ?_
  rintro e w' ⟨⟨b, rfl⟩, rfl⟩
  go_wp2_with fail
  all_goals (go_ret; exact ⟨rfl, Below.refl _ _⟩)

/-- no tranche -/
theorem law3_none (u : Int) (a : Option Addr) (cap : Nat) (w : World) (hu2 : u ≤ 9223372036854775807) :
    Calls Try.prog 3 #[.int .i64 u, .slice a 0 cap] w fun e w' => e = .returned (.bool true) ∧ Below w.heap.size w w' := by
  go_enter Try.func3, Try.ntmps3
  go_wp2_with fail
  refine (bytes_yes3 u a 0 cap (by omega) _).mono ?_
  rintro e w' ⟨rfl, rfl⟩
  by_cases hu : u < 0
  · go_wp2_with fail
    go_ret
    exact ⟨rfl, Below.refl _ _⟩
  · go_wp2_with fail
    go_loop [5] (fun i => i = .int .i64 0) (fun _ => 0)
    case atStart => rfl
    case round =>
      obtain rfl := hrel
      go_wp2_with fail
      refine (tt_all _ 0 (fun _ => 0) (fun _ => 0) _ (by omega) (.inl ⟨rfl, _, _, rfl⟩)).mono ?_
      rintro e w' ⟨v, rfl, ht, hb⟩
      go_wp2_with fail
      refine (split_all u v 0 _ _ w' (by omega) (by omega) (by omega) (fun i hi => absurd hi (by omega)) ht).mono ?_
      rintro e w2 ⟨rfl, hr, hb2⟩
      go_wp2_with fail
      go_ret
      exact ⟨rfl, hb.trans (hb2.mono hb.size)⟩

set_option maxHeartbeats 400000 in
theorem law3_some (u : Int) (b off len cap : Nat) (p q : Nat → Int) (w : World) (hl : len ≤ 65536) (hl0 : 0 < len) (hbw : b < w.heap.size) (hu2 : u ≤ 9223372036854775807)
    (hp : ∀ i, i < len → w.cell? ⟨b, off + i * 2, none⟩ = some (.int .i64 (p i))) (hq : ∀ i, i < len → w.cell? ⟨b, off + i * 2 + 1, none⟩ = some (.int .i64 (q i))) :
    Calls Try.prog 3 #[.int .i64 u, .slice (some ⟨b, off, none⟩) len cap] w fun e w' => e = .returned (.bool true) ∧ Below w.heap.size w w' := by
  go_enter Try.func3, Try.ntmps3
  go_wp2_with fail
  refine (bytes_yes3 u _ len cap hl _).mono ?_
  rintro e w' ⟨rfl, rfl⟩
  by_cases hu : u < 0
  · go_wp2_with fail
    go_ret
    exact ⟨rfl, Below.refl _ _⟩
  · go_wp2_with fail
    go_loop [5] (fun i => ∃ k : Nat, k < len ∧ i = .int .i64 k ∧ ∀ j, j < k → 0 ≤ p j ∧ p j ≤ 100) (fun i => len - (intOf i).toNat)
    case atStart => exact ⟨0, hl0, rfl, fun j h => absurd h (by omega)⟩
    case round =>
      obtain ⟨k, hk, rfl, hpk⟩ := hrel
      by_cases hlt : k + 1 < len
      · have c0 := hp k hk
        by_cases h1 : p k < 0
        · go_wp2_with fail
          go_ret
          exact ⟨rfl, Below.refl _ _⟩
        · by_cases h2 : 100 < p k
          · go_wp2_with fail
            go_ret
            exact ⟨rfl, Below.refl _ _⟩
          · go_wp2_with fail
            go_round
            case rel => exact ⟨k + 1, hlt, by go_num, fun j hj => by rcases Nat.lt_succ_iff_lt_or_eq.1 hj with h | rfl; exact hpk j h; omega⟩
            case measure => simp [intOf]; omega
      · have hpc : ∀ i, i + 1 < len → 0 ≤ p i ∧ p i ≤ 100 := fun i hi => hpk i (by omega)
        clear hpk
        go_wp2_with fail
        refine (tt_all _ len p q _ hl (.inr ⟨hl0, b, off, cap, rfl, hbw, hp, hq⟩)).mono ?_
        rintro e w1 ⟨v, rfl, ht, hb⟩
        go_wp2_with fail
        refine (split_all u v len p q w1 hl (by omega) hu2 hpc ht).mono ?_
        rintro e w2 ⟨rfl, hr, hb2⟩
        have hB : Below w'.heap.size w' w2 := hb.trans (hb2.mono hb.size)
        have hz : ((len : Int) == 0) = false := by simp; omega
        clear hk hlt
        go_wp2_with fail
        go_loop [8, 9] (fun s i => ∃ k : Nat, k < len ∧ i = .int .i64 k ∧ s = .int .i64 (tot u p k)) (fun _ i => len - (intOf i).toNat)
        case atStart => exact ⟨0, hl0, rfl, rfl⟩
        case round =>
          obtain ⟨m, hm, rfl, rfl⟩ := hrel
          have hg := hr.cell hm
          by_cases hlt : m + 1 < len
          · obtain ⟨hp0, hp1⟩ := hpc m hlt
            obtain ⟨_, _, _, _, s5, s6, _⟩ := sh_parts u (p m) (by omega) hp0 hp1
            obtain ⟨f1, f2⟩ := sh_floor u (p m) (by omega) hp0 hp1
            have c0 := (hB.cell (p := ⟨b, off + m * 2, none⟩) hbw).trans (hp m hm)
            have hg' : w2.cell? ⟨w1.heap.size, m, none⟩ = some (.int .i64 (sh u (p m))) := by rw [hg]; unfold spt; rw [if_pos hlt]
            clear hg
            go_wp2_with fail
            refine (floor_any u (p m) (sh u (p m)) (by omega) (by omega) (by omega) (by omega) (by omega) (by omega) f1 f2 _).mono ?_
            rintro e w3 ⟨rfl, rfl⟩
            go_wp2_with fail
            go_round
            case rel => exact ⟨m + 1, hlt, by go_num, rfl⟩
            case measure => simp [intOf]; omega
          · have hm1 : m = len - 1 := by omega
            have hg' : w2.cell? ⟨w1.heap.size, len - 1, none⟩ = some (.int .i64 (lft u p (len - 1))) := by rw [← hm1, hg]; unfold spt; rw [if_neg hlt, hm1]
            have hfin : (lft u p (len - 1) == wrap64 (u - tot u p m)) = true := by rw [hm1, ← lft_tot u p (by omega) hu2]; simp
            clear hg hm1
            go_wp2_with fail
            go_ret
            first | exact ⟨rfl, hB⟩ | exact ⟨ret_bool hfin, hB⟩
end Go.Proofs.Qxb6632334a

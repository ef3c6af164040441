import Derived.Test.Qxb6632566aWalkA
namespace Go.Proofs.Qxb6632566a
open Go.RowKit

/-- the last 4096 -/
def last (xs : List Int) : List Int := xs.drop (xs.length - 4096)

theorem setCell_chg (w : World) (T : Nat) (v : Value) : Chg (fun k => k = T) w (w.setCell ⟨T, 0, none⟩ v) :=
  ⟨rfl, rfl, rfl, by simp [World.setCell], fun k _ hk => Below.heap_setCell w _ _ k hk⟩

/-- a Tail at T that keeps the bytes xs -/
def Tail (w : World) (T : Nat) (ao : Option Addr) (xs : List Int) : Prop :=
  ∃ n c, w.cell? ⟨T, 0, none⟩ = some (.slice ao n c) ∧ w.frozen? ⟨T, 0, none⟩ = false ∧ T < w.heap.size ∧ ¬ blk ao T ∧ Ow w ao n c xs

theorem tail_set {w : World} {T : Nat} {ao : Option Addr} {n c : Nat} {xs : List Int} {v0 : Value} (h0 : w.cell? ⟨T, 0, none⟩ = some v0) (hf : w.frozen? ⟨T, 0, none⟩ = false) (hT : T < w.heap.size) (hnb : ¬ blk ao T) (hO : Ow w ao n c xs) :
    Tail (w.setCell ⟨T, 0, none⟩ (.slice ao n c)) T ao xs := by
  refine ⟨n, c, ?_, ?_, ?_, hnb, hO.kept (setCell_chg w T _) (fun k hk e => hnb (e ▸ hk))⟩
  · exact World.cell?_setCell_same' _ _ _ (by rw [h0]; rfl)
  · rw [World.frozen?_setCell]; exact hf
  · simpa [World.setCell] using hT

set_option maxHeartbeats 400000 in
theorem write_any (T : Nat) (ao : Option Addr) (xs : List Int) (px : Option Addr) (pn pc : Nat) (ys : List Int) (w : World) (hT : Tail w T ao xs) (hR : Rd w px pn ys) (hb : xs.length ≤ 4096) (hb2 : pn ≤ 1048576) :
    Calls Try.prog 8 #[.pointer (some ⟨T, 0, none⟩), .slice px pn pc] w fun e w' => e = .returned (.tuple #[.int .i64 pn, .nilIface]) ∧ ∃ ao', Tail w' T ao' (last (xs ++ ys)) ∧ Chg (fun k => k = T ∨ blk ao k) w w' ∧ ∀ k, blk ao' k → blk ao k ∨ (w.heap.size ≤ k ∧ k < w'.heap.size) := by
  obtain ⟨n, c, hcell, hfr, hTw, hnb, hO⟩ := hT
  have hn : xs.length = n := hO.1
  rw [hn] at hb
  have hc := hO.2.2.1
  unfold maxLen at hc
  go_enter Try.func8, Try.ntmps8
  go_wp2_with (at_builtin; refine wpList_append_ow _ rfl (.tmp 11) (.tmp 12) 22 rfl 5 Try.underlying22 Try.info5 rfl rfl hO hR (by omega) ?_)
  intro ao1 c1 w1 hO1 hC1 hB1
  have cT : w1.cell? ⟨T, 0, none⟩ = some (.slice ao n c) := (World.cell?_of_block (a := ⟨T, 0, none⟩) (hC1.block T hTw hnb)).trans hcell
  have fT : w1.frozen? ⟨T, 0, none⟩ = false := (World.frozen?_of_block (a := ⟨T, 0, none⟩) (hC1.block T hTw hnb)).trans hfr
  have hTw1 : T < w1.heap.size := Nat.lt_of_lt_of_le hTw hC1.size
  have hnb1 : ¬ blk ao1 T := fun h => by
    rcases hB1 T h with h | h
    · exact hnb h
    · omega
  have hlen : (xs ++ ys).length = n + pn := hO1.1
  by_cases hov : n + pn ≤ 4096
  · go_wp2_with fail
    go_ret2
    refine ⟨rfl, ao1, ?_, (hC1.mono fun k _ h => .inr h).trans ((setCell_chg w1 T _).mono fun k _ h => .inl h), fun k hk => by simpa [World.setCell] using hB1 k hk⟩
    rw [show last (xs ++ ys) = xs ++ ys by unfold last; rw [hlen, Nat.sub_eq_zero_of_le hov]; rfl]
    exact tail_set cT fT hTw1 hnb1 hO1
  · obtain ⟨g, off, rfl, _⟩ := hO1.2.2.2 (by have := hO1.2.1; omega)
    have hc1 := hO1.2.1
    go_wp2_with fail
    go_ret2
    have hO2 := hO1.cut (n + pn - 4096) (by omega)
    have hnb2 : ¬ blk (some (⟨g, off + (n + pn - 4096), none⟩ : Addr)) T := fun ⟨a, e1, e2⟩ => hnb1 ⟨_, rfl, by simp only [Option.some.injEq] at e1; subst e1; exact e2⟩
    refine ⟨rfl, some ⟨g, off + (n + pn - 4096), none⟩, ?_, ((hC1.mono fun k _ h => .inr h).trans ((setCell_chg w1 T _).mono fun k _ h => .inl h)).trans ((setCell_chg _ T _).mono fun k _ h => .inl h), fun k hk => ?_⟩
    · unfold last
      rw [hlen]
      refine tail_set (World.cell?_setCell_same' _ _ _ (by rw [cT]; rfl)) (by rw [World.frozen?_setCell]; exact fT) (by simpa [World.setCell] using hTw1) hnb2 (hO2.kept (setCell_chg w1 T _) (fun k hk e => hnb2 (e ▸ hk)))
    · obtain ⟨a, e1, e2⟩ := hk
      simp only [Option.some.injEq] at e1
      subst e1
      have := hB1 k ⟨_, rfl, e2⟩
      simpa [World.setCell] using this

theorem last_short (zs : List Int) (h : zs.length ≤ 4096) : last zs = zs := by
  unfold last
  rw [Nat.sub_eq_zero_of_le h]; rfl
theorem last_len (zs : List Int) : (last zs).length = if zs.length ≤ 4096 then zs.length else 4096 := by
  unfold last
  rw [List.length_drop]
  split <;> omega
theorem last_get (zs : List Int) (j : Nat) : (last zs).getD j 0 = zs.getD (zs.length - 4096 + j) 0 := by
  unfold last
  simp [List.getD]

set_option maxHeartbeats 400000 in
/-- keptSuffix, not more than 4096 in all -/
theorem kept_short (bx : Option Addr) (bc : Nat) (ax : Option Addr) (n ac : Nat) (zs : List Int) (w : World) (hB : Rd w bx n zs) (hA : Rd w ax n zs) (hn : n ≤ 4096) :
    Calls Try.prog 9 #[.slice bx n bc, .slice ax n ac] w fun e w' => e = .returned (.bool true) ∧ ∃ q, w' = w.drewN q := by
  have hz : ((n : Int) == (n : Int)) = true := by simp
  go_enter Try.func9, Try.ntmps9
  go_wp2_with fail
  go_loopw [7] (fun i wr => ∃ k q : Nat, k ≤ n ∧ i = .int .i64 k ∧ wr = w.drewN q) (fun i _ => n - (intOf i).toNat)
  case atStart => exact ⟨0, 0, by omega, rfl, rfl⟩
  case round =>
    obtain ⟨k, q, hk, rfl, rfl⟩ := hrel
    by_cases hlt : k < n
    · obtain ⟨b, off, rfl, _, hcb⟩ := hB.2 (by omega)
      obtain ⟨b2, off2, rfl, _, hca⟩ := hA.2 (by omega)
      have c1 := hcb k hlt
      have c2 := hca k hlt
      have hi : (k : Int) < (n : Int) := by omega
      go_wp2_with fail
      go_quiet (fail)
      go_wp2_with fail
      go_roundw
      case rel => exact ⟨k + 1, _, by omega, by go_num, rfl⟩
      case measure => simp [intOf]; omega
    · go_wp2_with fail
      go_ret
      exact ⟨rfl, _, rfl⟩

set_option maxHeartbeats 400000 in
set_option maxRecDepth 100000 in
/-- keptSuffix, more than 4096 in all -/
theorem kept_long (bx : Option Addr) (bc : Nat) (ax : Option Addr) (n ac : Nat) (zs : List Int) (w : World) (hB : Rd w bx 4096 (last zs)) (hA : Rd w ax n zs) (hn : 4096 < n) (hn2 : n ≤ 2097152) :
    Calls Try.prog 9 #[.slice bx 4096 bc, .slice ax n ac] w fun e w' => e = .returned (.bool true) ∧ ∃ q, w' = w.drewN q := by
  obtain ⟨b, off, rfl, _, hcb⟩ := hB.2 (by omega)
  obtain ⟨b2, off2, rfl, _, hca⟩ := hA.2 (by omega)
  have hlz := hA.1
  go_enter Try.func9, Try.ntmps9
  go_wp2_with fail
  go_loopw [7] (fun i wr => ∃ k q : Nat, k ≤ 4096 ∧ i = .int .i64 k ∧ wr = w.drewN q) (fun i _ => n - (intOf i).toNat)
  case atStart => exact ⟨0, 0, by omega, rfl, rfl⟩
  case round =>
    obtain ⟨k, q, hk, rfl, rfl⟩ := hrel
    by_cases hlt : k < 4096
    · have c1 := hcb k hlt
      have c2 := hca (n - 4096 + k) (by omega)
      rw [last_get, hlz] at c1
      clear hcb hca hlz
      have hi : (k : Int) < 4096 := by omega
      go_wp2_with fail
      go_quiet (fail)
      go_wp2_with fail
      go_roundw
      case rel => exact ⟨k + 1, _, by omega, by go_num, rfl⟩
      case measure => simp [intOf]; omega
    · go_wp2_with fail
      go_ret
      exact ⟨rfl, _, rfl⟩

theorem kept_any (bx : Option Addr) (bn bc : Nat) (ax : Option Addr) (n ac : Nat) (zs : List Int) (w : World) (hB : Rd w bx bn (last zs)) (hA : Rd w ax n zs) (hn2 : n ≤ 2097152) :
    Calls Try.prog 9 #[.slice bx bn bc, .slice ax n ac] w fun e w' => e = .returned (.bool true) ∧ ∃ q, w' = w.drewN q := by
  have hz := hA.1
  have hl := hB.1
  rw [last_len, hz] at hl
  by_cases h : n ≤ 4096
  · rw [if_pos h] at hl
    subst hl
    rw [last_short zs (by omega)] at hB
    exact kept_short bx bc ax n ac zs w hB hA h
  · rw [if_neg h] at hl
    subst hl
    exact kept_long bx bc ax n ac zs w hB hA (by omega) hn2

/-- what is kept behind two writes is what is kept behind the two joined -/
theorem last_last (a b : List Int) : last (last a ++ b) = last (a ++ b) := by
  by_cases h : a.length ≤ 4096
  · rw [last_short a h]
  · unfold last
    have e : a.drop (a.length - 4096) ++ b = (a ++ b).drop (a.length - 4096) := by rw [List.drop_append_of_le_length (by omega)]
    have e2 : a.length - 4096 + (((a ++ b).drop (a.length - 4096)).length - 4096) = (a ++ b).length - 4096 := by
      rw [List.length_drop, List.length_append]
      omega
    rw [e, List.drop_drop, e2]
theorem last_le (a : List Int) : (last a).length ≤ 4096 := by rw [last_len]; split <;> omega
end Go.Proofs.Qxb6632566a

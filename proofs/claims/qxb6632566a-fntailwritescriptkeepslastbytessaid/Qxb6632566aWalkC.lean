import Derived.Test.Qxb6632566aWalkB
namespace Go.Proofs.Qxb6632566a
open Go.RowKit

/-- the slice's block, if it has one, is number B or a later one -/
def Fro (B : Nat) (ao : Option Addr) : Prop := ∀ k, blk ao k → B ≤ k

theorem Fro.mono {B C : Nat} {ao : Option Addr} (h : Fro B ao) (hc : C ≤ B) : Fro C ao := fun k hk => Nat.le_trans hc (h k hk)
theorem Rd.below {w w' : World} {ao : Option Addr} {n : Nat} {xs : List Int} (h : Rd w ao n xs) (hb : Below w.heap.size w w') : Rd w' ao n xs := h.kept (S := fun _ => False) (by exact ⟨hb.os, hb.tape, hb.output, hb.size, fun k hk _ => hb.block k hk⟩) (fun _ _ h => h)
theorem Ow.below {w w' : World} {ao : Option Addr} {n c : Nat} {xs : List Int} (h : Ow w ao n c xs) (hb : Below w.heap.size w w') : Ow w' ao n c xs := h.kept (S := fun _ => False) (by exact ⟨hb.os, hb.tape, hb.output, hb.size, fun k hk _ => hb.block k hk⟩) (fun _ _ h => h)
theorem Tail.below {w w' : World} {T : Nat} {ao : Option Addr} {xs : List Int} (h : Tail w T ao xs) (hb : Below w.heap.size w w') : Tail w' T ao xs := by
  obtain ⟨n, c, h1, h2, h3, h4, h5⟩ := h
  exact ⟨n, c, (hb.cell (p := ⟨T, 0, none⟩) h3).trans h1, (hb.frozen (p := ⟨T, 0, none⟩) h3).trans h2, Nat.lt_of_lt_of_le h3 hb.size, h4, h5.below hb⟩
theorem Tail.rd {w : World} {T : Nat} {ao : Option Addr} {xs : List Int} (h : Tail w T ao xs) : ∃ n c, w.cell? ⟨T, 0, none⟩ = some (.slice ao n c) ∧ Rd w ao n xs := by
  obtain ⟨n, c, h1, _, _, _, h5⟩ := h
  exact ⟨n, c, h1, h5.rd⟩

theorem Fro.at {w : World} {ao : Option Addr} (h : ∀ k, blk ao k → w.heap.size ≤ k) : Fro w.heap.size ao := h
theorem fro_lit (B : Nat) (off : Nat) : Fro B (some ⟨B, off, none⟩) := fun k ⟨a, e1, e2⟩ => by
  simp only [Option.some.injEq] at e1
  subst e1
  exact Nat.le_of_eq e2
theorem Fro.next {B N M : Nat} {ao ao' : Option Addr} (h : Fro B ao) (hB : B ≤ N) (hF : ∀ k, blk ao' k → blk ao k ∨ (N ≤ k ∧ k < M)) : Fro B ao' := fun k hk => by
  rcases hF k hk with h1 | h1
  · exact h k h1
  · omega
theorem chg_below {B : Nat} {w w' : World} {ao : Option Addr} (h : Chg (blk ao) w w') (hF : Fro B ao) (hB : B ≤ w.heap.size) : Below B w w' := h.below hB hF
theorem chgT_below {B T : Nat} {w w' : World} {ao : Option Addr} (h : Chg (fun k => k = T ∨ blk ao k) w w') (hF : Fro B ao) (hT : B ≤ T) (hB : B ≤ w.heap.size) : Below B w w' :=
  h.below hB fun k hk => by
    rcases hk with h1 | h1
    · omega
    · exact hF k h1
theorem below_drewN {B : Nat} {a w : World} (h : Below B a w) (n : Nat) : Below B a (w.drewN n) := h.trans ⟨rfl, rfl, rfl, Nat.le_refl _, fun _ _ => rfl⟩

/-- a new row of m bytes' room -/
theorem make_ow (w : World) (m : Nat) (hm : m ≤ 1048576) : Ow (w.alloc (.cells (madeCells #[.int .u8 0] m) 5)) (some ⟨w.heap.size, 0, none⟩) 0 m [] := by
  refine ⟨rfl, Nat.zero_le _, by unfold maxLen; omega, fun _ => ⟨w.heap.size, 0, rfl, by simp, fun j hj => absurd hj (by omega), fun j hj => ?_⟩⟩
  have hr := World.rowIs_made w (.int .u8 0) m 5
  rw [Nat.zero_add]
  exact ⟨by rw [hr.cell hj]; rfl, hr.frozen j⟩
theorem make_run (m : Nat) (hm : m ≤ 1048576) (w : World) : (Instr.makeSlice 22 (.int .i64 0) (.int .i64 (m : Int))).run Try.prog w = .ok (.slice (some ⟨w.heap.size, 0, none⟩) 0 m) (w.alloc (.cells (madeCells #[.int .u8 0] m) 5)) := by
  obtain ⟨i, hi, h0, h1, h2⟩ := info_parts Try.info5
  have hr := run_make (P := Try.prog) w 22 5 i _ Try.underlying22 hi h0 .i64 .i64 0 m (by omega) (by omega) (by rw [h2]; omega) (by omega)
  rw [h1] at hr
  simpa [Value.cells] using hr

/-- a new Tail over an owned slice -/
theorem new_tail {w : World} {ao : Option Addr} {n c : Nat} {xs : List Int} (hO : Ow w ao n c xs) (hlt : ∀ k, blk ao k → k < w.heap.size) : Tail (w.alloc (.cells #[.slice ao n c] 36)) w.heap.size ao xs := by
  refine ⟨n, c, by simp, ?_, by simp, fun h => by have := hlt _ h; omega, hO.below ((Below.refl _ _).alloc (Nat.le_refl _) _)⟩
  exact frozen_of_row _ w.heap.size 0 _ 36 (Go.Deep.blk_alloc_new _ _)

theorem bytes_yes3 (a b c : Option Addr) (n0 n1 n2 c0 c1 c2 : Nat) (h : n0 + n1 + n2 ≤ 1048576) (w : World) :
    Calls Try.prog 5 #[.slice a n0 c0, .slice b n1 c1, .slice c n2 c2] w fun e w' => e = .returned (.bool true) ∧ w' = w := by
  go_enter Try.func5, Try.ntmps5
  go_wp2
  go_ret
  exact ⟨rfl, rfl⟩
theorem bytes_no3 (a b c : Option Addr) (n0 n1 n2 c0 c1 c2 : Nat) (h0 : n0 ≤ 9223372036854775807) (h1 : n1 ≤ 9223372036854775807) (h2 : n2 ≤ 9223372036854775807) (h : ¬ n0 + n1 + n2 ≤ 1048576) (w : World) :
    Calls Try.prog 5 #[.slice a n0 c0, .slice b n1 c1, .slice c n2 c2] w fun e w' => e = .returned (.bool false) ∧ w' = w := by
  go_enter Try.func5, Try.ntmps5
  go_wp2
  all_goals (go_ret; exact ⟨rfl, rfl⟩)

theorem law3_long (a b c : Option Addr) (n0 n1 n2 c0 c1 c2 : Nat) (h0 : n0 ≤ 9223372036854775807) (h1 : n1 ≤ 9223372036854775807) (h2 : n2 ≤ 9223372036854775807) (h : ¬ n0 + n1 + n2 ≤ 1048576) (w : World) :
    Calls Try.prog 3 #[.slice a n0 c0, .slice b n1 c1, .slice c n2 c2] w fun e w' => e = .returned (.bool true) ∧ Below w.heap.size w w' := by
  go_enter Try.func3, Try.ntmps3
  go_wp2_with fail
  refine (bytes_no3 a b c n0 n1 n2 c0 c1 c2 h0 h1 h2 h _).mono ?_
  rintro e w' ⟨rfl, rfl⟩
  go_wp2_with fail
  go_ret
  exact ⟨rfl, Below.refl _ _⟩
theorem law3_wide (a b c : Option Addr) (n0 n1 n2 c0 c1 c2 : Nat) (h : n0 + n1 + n2 ≤ 1048576) (hw : ¬ n0 ≤ 4096) (w : World) :
    Calls Try.prog 3 #[.slice a n0 c0, .slice b n1 c1, .slice c n2 c2] w fun e w' => e = .returned (.bool true) ∧ Below w.heap.size w w' := by
  go_enter Try.func3, Try.ntmps3
  go_wp2_with fail
  refine (bytes_yes3 a b c n0 n1 n2 c0 c1 c2 h _).mono ?_
  rintro e w' ⟨rfl, rfl⟩
  go_wp2_with fail
  go_ret
  exact ⟨rfl, Below.refl _ _⟩

set_option maxHeartbeats 1000000 in
theorem law3_some (a b c : Option Addr) (n0 n1 n2 c0 c1 c2 : Nat) (xs ys zs : List Int) (w : World) (hX : Rd w a n0 xs) (hY : Rd w b n1 ys) (hZ : Rd w c n2 zs) (h : n0 + n1 + n2 ≤ 1048576) (hw : n0 ≤ 4096) :
    Calls Try.prog 3 #[.slice a n0 c0, .slice b n1 c1, .slice c n2 c2] w fun e w' => e = .returned (.bool true) ∧ Below w.heap.size w w' := by
  have hmk1 : ∀ w, (Instr.makeSlice 22 (.int .i64 0) (.int .i64 ((n0 : Int) + (n1 : Int) + (n2 : Int)))).run Try.prog w = .ok (.slice (some ⟨w.heap.size, 0, none⟩) 0 (n0 + n1 + n2)) (w.alloc (.cells (madeCells #[.int .u8 0] (n0 + n1 + n2)) 5)) := fun w => by
    have := make_run (n0 + n1 + n2) h w
    simpa using this
  have hmk2 : ∀ w, (Instr.makeSlice 22 (.int .i64 0) (.int .i64 ((n1 : Int) + (n2 : Int)))).run Try.prog w = .ok (.slice (some ⟨w.heap.size, 0, none⟩) 0 (n1 + n2)) (w.alloc (.cells (madeCells #[.int .u8 0] (n1 + n2)) 5)) := fun w => by
    have := make_run (n1 + n2) (by omega) w
    simpa using this
  go_enter Try.func3, Try.ntmps3
  go_wp2_with fail
  refine (bytes_yes3 a b c n0 n1 n2 c0 c1 c2 h _).mono ?_
  rintro e w0 ⟨rfl, rfl⟩
  go_wp2_with fail
  refine (clone_any a n0 c0 xs _ hX (by omega)).mono ?_
  rintro e w1 ⟨a1, d0, rfl, hX1, hB1, hF1⟩
  have hY1 := hY.below hB1
  go_wp2_with fail
  refine (clone_any b n1 c1 ys _ hY1 (by omega)).mono ?_
  rintro e w2 ⟨b1, d1, rfl, hY2, hB2, hF2⟩
  have hZ2 := (hZ.below hB1).below hB2
  go_wp2_with fail
  refine (clone_any c n2 c2 zs _ hZ2 (by omega)).mono ?_
  rintro e w3 ⟨e1, d2, rfl, hZ3, hB3, hF3⟩
  have hX3 : Rd w3 a1 n0 xs := (hX1.rd.below hB2).below hB3
  have hY3 : Rd w3 b1 n1 ys := hY2.rd.below hB3
  have hZ3' : Rd w3 e1 n2 zs := hZ3.rd
  have B03 : Below w0.heap.size w0 w3 := (hB1.trans (hB2.mono hB1.size)).trans (hB3.mono (Nat.le_trans hB1.size hB2.size))
  clear hX hY hZ hX1 hY1 hY2 hZ2 hZ3 hB1 hB2 hB3 hF1 hF2 hF3
  -- all
  have hA := make_ow w3 (n0 + n1 + n2) h
  have B3a : Below w3.heap.size w3 (w3.alloc (.cells (madeCells #[.int .u8 0] (n0 + n1 + n2)) 5)) := (Below.refl _ _).alloc (Nat.le_refl _) _
  go_wp2_with (at_builtin; refine wpList_append_ow _ rfl (.tmp 61) (.tmp 62) 22 rfl 5 Try.underlying22 Try.info5 rfl rfl hA (hX3.below B3a) (by omega) ?_)
  intro aa ca w4 hA4 hC4 hF4
  have sz3 : w3.heap.size ≤ (w3.alloc (.cells (madeCells #[.int .u8 0] (n0 + n1 + n2)) 5)).heap.size := B3a.size
  have FA4 : Fro w3.heap.size aa := (fro_lit _ 0).next (Nat.le_succ _) hF4
  have B34 : Below w3.heap.size w3 w4 := B3a.trans (chg_below hC4 (fro_lit _ 0) sz3)
  clear hA hC4 hF4 B3a sz3
  go_wp2_with (at_builtin; refine wpList_append_ow _ rfl (.tmp 64) (.tmp 65) 22 rfl 5 Try.underlying22 Try.info5 rfl rfl hA4 (hY3.below B34) (by omega) ?_)
  intro ab cb w5 hA5 hC5 hF5
  have FA5 : Fro w3.heap.size ab := FA4.next B34.size hF5
  have B35 : Below w3.heap.size w3 w5 := B34.trans (chg_below hC5 FA4 B34.size)
  clear hA4 hC5 hF5 FA4 B34
  go_wp2_with (at_builtin; refine wpList_append_ow _ rfl (.tmp 67) (.tmp 68) 22 rfl 5 Try.underlying22 Try.info5 rfl rfl hA5 (hZ3'.below B35) (by omega) ?_)
  intro ac cc w6 hA6 hC6 hF6
  have B36 : Below w3.heap.size w3 w6 := B35.trans (chg_below hC6 FA5 B35.size)
  have hA6' : Rd w6 ac (n0 + n1 + n2) (xs ++ ys ++ zs) := by rw [List.append_assoc]; exact hA6.rd
  clear hA5 hC6 hF6 FA5 B35 hA6
  -- joined
  have hJ := make_ow w6 (n1 + n2) (by omega)
  have B6a : Below w6.heap.size w6 (w6.alloc (.cells (madeCells #[.int .u8 0] (n1 + n2)) 5)) := (Below.refl _ _).alloc (Nat.le_refl _) _
  go_wp2_with (at_builtin; refine wpList_append_ow _ rfl (.tmp 76) (.tmp 77) 22 rfl 5 Try.underlying22 Try.info5 rfl rfl hJ ((hY3.below B36).below B6a) (by omega) ?_)
  intro ja jc w7 hJ7 hC7 hF7
  have FJ7 : Fro w6.heap.size ja := (fro_lit _ 0).next (Nat.le_succ _) hF7
  have B67 : Below w6.heap.size w6 w7 := B6a.trans (chg_below hC7 (fro_lit _ 0) B6a.size)
  clear hJ hC7 hF7 B6a
  go_wp2_with (at_builtin; refine wpList_append_ow _ rfl (.tmp 79) (.tmp 80) 22 rfl 5 Try.underlying22 Try.info5 rfl rfl hJ7 ((hZ3'.below B36).below B67) (by omega) ?_)
  intro jb jd w8 hJ8 hC8 hF8
  have B68 : Below w6.heap.size w6 w8 := B67.trans (chg_below hC8 FJ7 B67.size)
  have hJ8' : Rd w8 jb (n1 + n2) (ys ++ zs) := hJ8.rd
  have hA8 : Rd w8 ac (n0 + n1 + n2) (xs ++ ys ++ zs) := hA6'.below B68
  have B38 : Below w3.heap.size w3 w8 := B36.trans (B68.mono B36.size)
  have hX8 : Rd w8 a1 n0 xs := hX3.below B38
  have hY8 : Rd w8 b1 n1 ys := hY3.below B38
  have hZ8 : Rd w8 e1 n2 zs := hZ3'.below B38
  have B08 : Below w0.heap.size w0 w8 := B03.trans (B38.mono B03.size)
  clear hJ7 hC8 hF8 FJ7 B67 B68 hA6' hJ8 hX3 hY3 hZ3' B36 B38 B03 hmk1 hmk2
  -- the first Tail
  go_wp2_with fail
  refine (clone_any a1 n0 d0 xs _ hX8 (by omega)).mono ?_
  rintro e w9 ⟨ta, tc, rfl, hT9, hB9, hF9⟩
  go_wp2_with fail
  refine (new_any ta n0 tc _).mono ?_
  rintro e w10 ⟨rfl, rfl⟩
  have hT10 := new_tail hT9 (fun k hk => (hF9 k hk).2)
  have FT10 : Fro w8.heap.size ta := fun k hk => (hF9 k hk).1
  have B810 : Below w8.heap.size w8 (w9.alloc (.cells #[.slice ta n0 tc] 36)) := hB9.alloc hB9.size _
  have hT1 : w8.heap.size ≤ w9.heap.size := hB9.size
  clear hT9 hF9
  have hlx : xs.length ≤ 4096 := by have := hX8.1; omega
  go_wp2_with fail
  refine (write_any w9.heap.size ta xs b1 n1 d1 ys _ hT10 (hY8.below B810) hlx (by omega)).mono ?_
  rintro e w11 ⟨rfl, tb, hT11, hC11, hF11⟩
  have FT11 : Fro w8.heap.size tb := FT10.next B810.size hF11
  have B811 : Below w8.heap.size w8 w11 := B810.trans (chgT_below hC11 FT10 hT1 B810.size)
  clear hT10 hC11 hF11 FT10 B810
  go_wp2_with fail
  refine (write_any w9.heap.size tb _ e1 n2 d2 zs _ hT11 (hZ8.below B811) (last_le _) (by omega)).mono ?_
  rintro e w12 ⟨rfl, td, hT12, hC12, hF12⟩
  have B812 : Below w8.heap.size w8 w12 := B811.trans (chgT_below hC12 FT11 hT1 B811.size)
  rw [last_last] at hT12
  clear hT11 hC12 hF12 FT11 B811
  have hX12 := hX8.below B812
  have hJ12 := hJ8'.below B812
  have hA12 := hA8.below B812
  have B012 : Below w0.heap.size w0 w12 := B08.trans (B812.mono B08.size)
  clear hX8 hY8 hZ8 hJ8' hA8 B08 B812 hB9 hT1
  -- the second Tail
  go_wp2_with fail
  refine (clone_any a1 n0 d0 xs _ hX12 (by omega)).mono ?_
  rintro e w13 ⟨ua, uc, rfl, hU13, hB13, hF13⟩
  go_wp2_with fail
  refine (new_any ua n0 uc _).mono ?_
  rintro e w14 ⟨rfl, rfl⟩
  have hU14 := new_tail hU13 (fun k hk => (hF13 k hk).2)
  have FU14 : Fro w12.heap.size ua := fun k hk => (hF13 k hk).1
  have B1214 : Below w12.heap.size w12 (w13.alloc (.cells #[.slice ua n0 uc] 36)) := hB13.alloc hB13.size _
  have hT2 : w12.heap.size ≤ w13.heap.size := hB13.size
  clear hU13 hF13
  go_wp2_with fail
  refine (write_any w13.heap.size ua xs jb (n1 + n2) jd (ys ++ zs) _ hU14 (hJ12.below B1214) hlx (by omega)).mono ?_
  rintro e w15 ⟨rfl, ub, hU15, hC15, hF15⟩
  have B1215 : Below w12.heap.size w12 w15 := B1214.trans (chgT_below hC15 FU14 hT2 B1214.size)
  have hA15 := hA12.below B1215
  obtain ⟨tn, tcc, hcell1, hT15⟩ := (hT12.below B1215).rd
  obtain ⟨un, ucc, hcell2, hU15'⟩ := hU15.rd
  rw [← List.append_assoc] at hU15'
  have B015 : Below w0.heap.size w0 w15 := B012.trans (B1215.mono B012.size)
  clear hU14 hC15 hF15 FU14 B1214 B1215 hT12 hU15 hX12 hJ12 hA12 B012 hB13 hT2
  -- what they keep
  go_wp2_with fail
  refine (buf_any w9.heap.size _ _ hcell1).mono ?_
  rintro e w16 ⟨rfl, rfl⟩
  go_wp2_with fail
  refine (kept_any td tn tcc ac (n0 + n1 + n2) cc _ _ hT15 hA15 (by omega)).mono ?_
  rintro e w17 ⟨rfl, q1, rfl⟩
  go_wp2_with fail
  refine (buf_any w13.heap.size (.slice ub un ucc) _ (by exact hcell2)).mono ?_
  rintro e w18 ⟨rfl, rfl⟩
  go_wp2_with fail
  refine (kept_any ub un ucc ac (n0 + n1 + n2) cc _ _ (hU15'.below (below_drewN (Below.refl _ _) q1)) (hA15.below (below_drewN (Below.refl _ _) q1)) (by omega)).mono ?_
  rintro e w19 ⟨rfl, q2, rfl⟩
  go_wp2_with fail
  go_ret
  exact ⟨rfl, below_drewN B015 _⟩
end Go.Proofs.Qxb6632566a

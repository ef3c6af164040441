import Derived.Test.Qxb6632566aWalkE
namespace Go.Proofs.Qxb6632566a
open Go.RowKit

set_option maxHeartbeats 1000000 in
/-- chunks is nil -/
theorem law4_nil (a : Option Addr) (n0 c0 c : Nat) (xs : List Int) (w : World) (hX : Rd w a n0 xs) (h0 : n0 ≤ 4096) :
    Calls Try.prog 4 #[.slice a n0 c0, .slice none 0 c] w fun e w' => e = .returned (.bool true) ∧ Below w.heap.size w w' := by
  have hnil : ∀ W, (binOp .neq 33 (.slice none 0 c) (.slice none 0 0)).run Try.prog W = .ok (.bool false) W := fun W => run_neq_slice_nil_any W _ _ _ _ _ _ _ Try.underlying33
  go_enter Try.func4, Try.ntmps4
  go_wp2_with fail
  refine (bytes4 a n0 c0 none 0 c (fun _ => none) (fun _ => 0) (fun _ => 0) (fun _ => []) _ (by omega) (by omega) ⟨fun h => absurd h (by omega), fun i hi => absurd hi (by omega)⟩).mono ?_
  rintro e w0 ⟨⟨b, rfl⟩, rfl⟩
  cases b
  · go_wp2_with fail
    go_ret
    exact ⟨rfl, Below.refl _ _⟩
  · go_wp2_with fail
    go_loop [5, 6] (fun z i => i = .int .i64 0 ∧ z = .int .i64 n0) (fun _ _ => 0)
    case atStart => exact ⟨rfl, rfl⟩
    case round =>
      obtain ⟨rfl, rfl⟩ := hrel
      go_wp2_with fail
      refine (clone_any a n0 c0 xs _ hX (by omega)).mono ?_
      rintro e w1 ⟨a1, d0, rfl, hX1, hB1, hF1⟩
      go_wp2_with fail
      refine (clone_any a1 n0 d0 xs _ hX1.rd (by omega)).mono ?_
      rintro e w2 ⟨a2, d2, rfl, hX2, hB2, hF2⟩
      go_wp2_with fail
      refine (clone_any a1 n0 d0 xs _ (hX1.rd.below hB2) (by omega)).mono ?_
      rintro e w3 ⟨a3, d3, rfl, hX3, hB3, hF3⟩
      go_wp2_with fail
      refine (new_any a3 n0 d3 _).mono ?_
      rintro e w4 ⟨rfl, rfl⟩
      have hB : Below w0.heap.size w0 (w3.alloc (.cells #[.slice a3 n0 d3] 36)) := (((hB1.trans (hB2.mono hB1.size)).trans (hB3.mono (Nat.le_trans hB1.size hB2.size)))).alloc (Nat.le_trans hB1.size (Nat.le_trans hB2.size hB3.size)) _
      go_wp2_with fail
      go_loop [9, 11] (fun _ i => i = .int .i64 0) (fun _ _ => 0)
      case atStart => rfl
      case round =>
        obtain rfl := hrel
        go_wp2_with fail
        go_ret
        exact ⟨rfl, hB⟩

set_option maxHeartbeats 1000000 in
theorem law4_some (a : Option Addr) (n0 c0 : Nat) (x : Addr) (n c : Nat) (xs : List Int) (A : Nat → Option Addr) (L C : Nat → Nat) (X : Nat → List Int) (w : World) (hX : Rd w a n0 xs) (hR : RdR w (some x) n A L C X) (h0 : n0 ≤ 4096) (hn : n ≤ 4096) :
    Calls Try.prog 4 #[.slice a n0 c0, .slice (some x) n c] w fun e w' => e = .returned (.bool true) ∧ Below w.heap.size w w' := by
  have hnil : ∀ W, (binOp .neq 33 (.slice (some x) n c) (.slice none 0 0)).run Try.prog W = .ok (.bool true) W := fun W => run_neq_slice_nil_any W _ _ _ _ _ _ _ Try.underlying33
  have hmk := run_make_row' (P := Try.prog) 33 22 _ 24 Try.underlying33 Try.info22 rfl .i64 .i64 n (by omega) (by omega)
  go_enter Try.func4, Try.ntmps4
  go_wp2_with fail
  refine (bytes4 a n0 c0 (some x) n c A L C X _ (by omega) (by omega) hR).mono ?_
  rintro e w0 ⟨⟨b, rfl⟩, rfl⟩
  cases b
  · go_wp2_with fail
    go_ret
    exact ⟨rfl, Below.refl _ _⟩
  · go_wp2_with fail
    go_loop [5, 6] (fun z i => ∃ k m : Nat, k ≤ n ∧ n0 + tt L k ≤ m ∧ m ≤ 1048576 ∧ i = .int .i64 k ∧ z = .int .i64 m) (fun _ i => n - (intOf i).toNat)
    case atStart => exact ⟨0, n0, by omega, Nat.le_refl _, by omega, rfl, rfl⟩
    case round =>
      obtain ⟨k, m, hk, hm1, hm2, rfl, rfl⟩ := hrel
      by_cases hlt : k < n
      · obtain ⟨bb, off, ex, _, hc⟩ := hR.1 (by omega)
        obtain rfl := Option.some.inj ex
        clear ex
        have cc1 := hc k hlt
        have hL := (hR.2 k hlt).2
        clear hc
        by_cases h1 : L k ≤ 1048576
        · by_cases h2 : m + (24 + L k) ≤ 1048576
          · go_wp2_with fail
            go_round
            case rel => exact ⟨k + 1, m + (24 + L k), by omega, by show n0 + (tt L k + L k) ≤ _; omega, h2, by go_num, by go_num⟩
            case measure => simp [intOf]; omega
          · go_wp2_with fail
            go_ret
            exact ⟨rfl, Below.refl _ _⟩
        · go_wp2_with fail
          go_ret
          exact ⟨rfl, Below.refl _ _⟩
      · have hsum : n0 + tt L n ≤ 1048576 := by
          obtain rfl : k = n := by omega
          omega
        have hLs : ∀ i, i < n → L i ≤ 1048576 := fun i hi => by have := tt_at L hi; omega
        have HL : Hid (∀ i, i < n → L i ≤ 1048576) := hLs
        clear hLs hm1
        go_wp2_with fail
        refine (clone_any a n0 c0 xs _ hX (by omega)).mono ?_
        rintro e w1 ⟨a1, d0, rfl, hX1, hB1, hF1⟩
        have hR1 := hR.below hB1
        have hX1' := hX1.rd
        clear hX hR hX1 hF1
        go_wp2_with fail
        go_loopw [8] (fun i wr => ∃ (j : Nat) (A' : Nat → Option Addr) (C' : Nat → Nat), j ≤ n ∧ i = .int .i64 j ∧ Mid w1 wr n j A' L C' X) (fun i _ => n - (intOf i).toNat)
        case atStart => exact ⟨0, A, C, by omega, rfl, mid_start w1 n A L C X⟩
        case round =>
          obtain ⟨j, A', C', hj, rfl, hMid⟩ := hrel
          by_cases hlt2 : j < n
          · obtain ⟨bb, off, ex, hbb, hc⟩ := hR1.1 (by omega)
            obtain rfl := Option.some.inj ex
            clear ex
            have cc1 := (hMid.below.cell (p := ⟨bb, off + j, none⟩) hbb).trans (hc j hlt2)
            have hRj := (hR1.2 j hlt2).1.below hMid.below
            have hLj := HL.out j hlt2
            clear hc
            go_wp2_with fail
            refine (clone_any (A j) (L j) (C j) (X j) _ hRj hLj).mono ?_
            rintro e w' ⟨a', c', rfl, hO', hb', hF'⟩
            have hlt3 := hMid.row.lt
            have hrow : w'.rowIs w1.heap.size 22 n (csv A' L C' j) := hMid.row.of_block (hb'.block _ hlt3)
            have dd0 := hrow.cell hlt2
            have ff0 := hrow.frozen j
            have M := mid_step hMid hO' hb' hF'
            clear hrow
            go_wp2_with fail
            go_roundw
            case rel => exact ⟨j + 1, _, _, by omega, by go_num, M⟩
            case measure => simp [intOf]; omega
          · obtain rfl : j = n := by omega
            obtain ⟨w2, hw2⟩ : ∃ w2, w2 = wr := ⟨_, rfl⟩
            subst hw2
            have hR2 := mid_end hMid HL.out
            have B12 := hMid.below
            have hX2 := hX1'.below B12
            have B02 : Below w0.heap.size w0 w2 := hB1.trans (B12.mono hB1.size)
            have hXl : xs.length = n0 := hX2.1
            have HF : Hid (∀ k, k ≤ j → (flat X k).length = tt L k) := fun k hk => flat_len X L j (fun i hi => (hR2.2 i hi).1.1) k hk
            have hx4 : xs.length ≤ 4096 := by omega
            have HX : Hid (xs.length = n0) := hXl
            clear hMid hR1 hX1' B12 hB1 hmk hnil hXl
            go_wp2_with fail
            refine (clone_any a1 n0 d0 xs _ hX2 (by omega)).mono ?_
            rintro e w3 ⟨aA, cA, rfl, hO3, hB3, hF3⟩
            have hX3 := hX2.below hB3
            go_wp2_with fail
            refine (clone_any a1 n0 d0 xs _ hX3 (by omega)).mono ?_
            rintro e w4 ⟨aT, cT, rfl, hO4, hB4, hF4⟩
            go_wp2_with fail
            refine (new_any aT n0 cT _).mono ?_
            rintro e w5 ⟨rfl, rfl⟩
            have R0 := run_start hO3 hB3 hF3 hO4 hB4 hF4 hx4 X
            clear hX2 hX3 hO3 hB3 hF3 hO4 hB4 hF4
            go_wp2_with fail
            go_loopw [9, 11] (fun v i ws => ∃ (k nA cA : Nat) (aA aT : Option Addr), k ≤ j ∧ i = .int .i64 k ∧ v = .slice aA nA cA ∧ Run w2 ws w4.heap.size aA nA cA aT (xs ++ flat X k)) (fun _ i _ => j - (intOf i).toNat)
            case atStart => exact ⟨0, n0, cA, aA, aT, by omega, rfl, rfl, R0⟩
            case round =>
              obtain ⟨k3, nA, cA3, aA3, aT3, hk3, rfl, rfl, hRun⟩ := hrel
              by_cases hlt3 : k3 < j
              · obtain ⟨bb, off, ex, hbb, hc⟩ := hR2.1 (by omega)
                have ex' := Option.some.inj ex
                simp only [Addr.mk.injEq, and_true] at ex'
                obtain ⟨rfl, rfl⟩ := ex'
                clear ex
                have hck := hc k3 hlt3
                rw [Nat.zero_add] at hck
                clear hc
                have hRk := (hR2.2 k3 hlt3).1
                have hLk := HL.out k3 hlt3
                have hnA : nA + L k3 ≤ 1048576 := by
                  have e1 := hRun.all.1
                  rw [List.length_append, HF.out k3 (by omega), HX.out] at e1
                  have e2 := tt_at L hlt3
                  omega
                have cc1 := (hRun.below.cell (p := ⟨w1.heap.size, k3, none⟩) hbb).trans hck
                go_wp2_with fail
                refine (write_any w4.heap.size aT3 (last (xs ++ flat X k3)) (A' k3) (L k3) (C' k3) (X k3) _ hRun.tail (hRk.below hRun.below) (last_le _) hLk).mono ?_
                rintro e w6 ⟨rfl, aT6, hT6, hC6, hF6⟩
                obtain ⟨hO6, hT6', hd6, ht6, hb6⟩ := run_write hRun hT6 hC6 hF6
                have hTT := hRun.hT
                have cc2 := (hb6.cell (p := ⟨w1.heap.size, k3, none⟩) hbb).trans hck
                have hRk6 := hRk.below hb6
                clear cc1 hT6 hC6 hF6 hRun
                go_wp2_with (at_builtin; refine wpList_append_ow _ rfl (.tmp 101) (.tmp 105) 22 rfl 5 Try.underlying22 Try.info5 rfl rfl hO6 hRk6 (by omega) ?_)
                intro aA7 cA7 w7 hO7 hC7 hF7
                have hO7' : Ow w7 aA7 (nA + L k3) cA7 (xs ++ flat X k3 ++ X k3) := by rw [List.append_assoc]; exact hO7
                have R7 := run_append hO7' hT6' hC7 hF7 hd6 ht6 hTT hb6
                have eflat : xs ++ flat X k3 ++ X k3 = xs ++ flat X (k3 + 1) := List.append_assoc _ _ _
                rw [eflat] at R7
                obtain ⟨tn, tc, hcl, hRt⟩ := R7.tail.rd
                have hAl := R7.all.rd
                clear eflat hO7 hO7' hC7 hF7 hd6 ht6 hO6 hT6' hRk6 cc2
                go_wp2_with fail
                refine (buf_any w4.heap.size (.slice aT6 tn tc) _ hcl).mono ?_
                rintro e w8 ⟨rfl, rfl⟩
                go_wp2_with fail
                refine (kept_any aT6 tn tc aA7 (nA + L k3) cA7 _ _ hRt hAl (by omega)).mono ?_
                rintro e w9 ⟨rfl, q, rfl⟩
                have R9 := run_drew R7 q
                clear R7 hRt hAl hcl
                go_wp2_with fail
                go_roundw
                case rel => exact ⟨k3 + 1, _, _, _, _, by omega, by go_num, rfl, R9⟩
                case measure => simp [intOf]; omega
              · go_wp2_with fail
                go_ret
                exact ⟨rfl, B02.trans (hRun.below.mono B02.size)⟩
end Go.Proofs.Qxb6632566a

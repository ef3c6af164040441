import Derived.Test.Qxb6632402aWalkC
import Derived.WalkKit
import Derived.ProofKit
import Derived.OpenShut
import Derived.ShutString
namespace Go.Proofs.Qxb6632402a.fnRegexpEndOrdinaryByteInserted
open Go.ChangeShapes Go.WideShapes Go.ChangeAt Go.RowKit
open Go.ChangeMaps (open_string shut_string)
set_option linter.unusedVariables false      -- a walk need not use every 'w<i>' (that an integer argument fits its kind)

theorem own : ownKnob Try.prog.godebug = none := by kernel_rfl

theorem bs_extract (s : ByteArray) (i j : Nat) : bs (s.extract i j) = ((bs s).drop i).take (j - i) := by
  simp [bs, ByteArray.data_extract, List.extract_eq_take_drop]
theorem bs_app (s t : ByteArray) : bs (s ++ t) = bs s ++ bs t := by simp [bs]
theorem bs_put (s : ByteArray) (c : Int) (p : Nat) : bs (s.extract 0 p ++ one c ++ s.extract p s.size) = (bs s).take p ++ UInt8.ofNat c.toNat :: (bs s).drop p := by
  have e1 : bs (one c) = [UInt8.ofNat c.toNat] := rfl
  rw [bs_app, bs_app, bs_extract, bs_extract, e1]
  have e2 : ((bs s).drop p).take (s.size - p) = (bs s).drop p := List.take_of_length_le (by simp [bs_len])
  rw [e2]
  simp

theorem rx_le (s : ByteArray) : rx (bs s) ≤ s.size := by
  rcases rx_close (bs s) with e | ⟨k, e, h, _⟩
  · rw [e]; omega
  · rw [e]; rw [bs_len] at h; omega

theorem c_ne {c : Int} (h0 : 0 ≤ c) (h1 : c ≤ 255) (d : UInt8) (h : ¬ c = (d.toNat : Int)) : UInt8.ofNat c.toNat ≠ d := by
  intro e
  have e' := congrArg UInt8.toNat e
  simp at e'
  omega

theorem law4 (s : ByteArray) (p c : Int) (hs : s.size ≤ 9223372036854775807) (hc0 : 0 ≤ c) (hc1 : c ≤ 255) (w : World) :
    Calls Try.prog 4 #[.string s, .int .i64 p, .int .u8 c] w fun e w' => e = .returned (.bool true) ∧ Grown w w' := by
  by_cases h : s.size ≤ 1048576
  · by_cases hp : p < 1 ∨ s.size < p
    · exact law4_out s p c h hp w
    · obtain ⟨n, rfl⟩ := Int.eq_ofNat_of_zero_le (show 0 ≤ p by omega)
      have hn1 : 1 ≤ n := by omega
      have hn2 : n ≤ s.size := by omega
      by_cases hb : ∃ h2 : 2 ≤ n, s[n - 1] = 92
      · obtain ⟨h2, hb⟩ := hb
        exact law4_behind s n c h h2 hn2 hb w
      · have hb' : 2 ≤ n → s[n - 1] ≠ 92 := fun h2 e => hb ⟨h2, e⟩
        by_cases hc : c = 47 ∨ c = 92
        · exact law4_sign s n c h hn1 hn2 hc hb' w
        · have c1 : (c == 47) = false := by simp; omega
          have c2 : (c == 92) = false := by simp; omega
          have hle := rx_le s
          have hlen : ((bs s).take n).length = n := by simp [bs_len]; omega
          have hlast : 2 ≤ ((bs s).take n).length → ((bs s).take n).getLast? ≠ some 92 := by
            intro h2 e
            rw [hlen] at h2
            rw [List.getLast?_eq_getElem?, hlen, List.getElem?_take_of_lt (by omega), List.getElem?_eq_getElem (by rw [bs_len]; omega)] at e
            exact hb' h2 (Option.some.inj e)
          have key := rx_put ((bs s).take n) ((bs s).drop n) (UInt8.ofNat c.toNat) (by omega) hlast (c_ne hc0 hc1 92 (by simp; omega)) (c_ne hc0 hc1 47 (by simp; omega))
          rw [List.take_append_drop, ← bs_put, hlen] at key
          by_cases h2 : 2 ≤ n
          · have t1 : ((s[n - 1].toNat : Int) == 92) = false := by rw [show (92 : Int) = ((92 : UInt8).toNat : Int) from rfl, byte_eq]; simp [hb' h2]
            rcases key with ⟨k1, k2, k3⟩ | ⟨k1, k2⟩ | ⟨k1, k2⟩
            · exact law4_pa s n c h hn2 h2 t1 c1 c2 k1 k2 k3 w
            · exact law4_pb s n c h hn2 h2 t1 c1 c2 (by omega) k1 (by omega) k2 w
            · exact law4_pc s n c h hn2 h2 t1 c1 c2 k1 k2 w
          · obtain rfl : n = 1 := by omega
            rcases key with ⟨k1, k2, k3⟩ | ⟨k1, k2⟩ | ⟨k1, k2⟩
            · exact law4_onea s c h hn2 c1 c2 k1 k2 k3 w
            · exact law4_oneb s c h hn2 c1 c2 (by omega) k1 (by omega) k2 w
            · exact law4_onec s c h hn2 c1 c2 k1 k2 w
  · exact law4_long s p c hs h w

theorem walk (a0 : ByteArray) (a1 : Int) (a2 : Int) (w0 : a0.size ≤ maxLen) (w1 : (Lit.int .i64 a1).wf = true) (w2 : (Lit.int .u8 a2).wf = true) (w : World) :
    Calls Try.prog 4 #[.string a0, .int .i64 a1, .int .u8 a2] w fun e w' => e = .returned (.bool true) ∧ Grown w w' := by
  have b := bounds_u8 w2
  unfold maxLen at w0
  exact law4 a0 a1 a2 (by omega) b.1 b.2 w

/-! ### The row's step (the given shell's own text) -/
set_option maxRecDepth 100000 in
theorem lifted (os : Os) (started : os.Started) (H : Type) (enc : TypeId × Value → H) :
    ReturnsInHanded {} Try.checked os 4 .any (Rows.fnRegexpEndOrdinaryByteInsertedSpec.pre6 enc Try.prog Try.f4 Rows.fnRegexpEndOrdinaryByteInsertedRow.domain false) (Rows.fnRegexpEndOrdinaryByteInsertedSpec.post enc Try.prog Try.f4 false true false false) := by
  refine returnsInHanded_of_change (C := Try.checked) own started (by kernel_rfl) Try.func4
    (ChangeSpec.witness6 (enc := enc) (C := Try.checked) false ⟨#[], #[.string ByteArray.empty, .int .i64 0, .int .u8 0], []⟩ 8 (by kernel_rfl) (by kernel_rfl) (by kernel_rfl) (by kernel_rfl)) ?_
  intro W base args ds gs before hval0 hW hcnd _
  have hval : ∀ (j : Nat) t v, Try.f4.params[j]? = some t → args[j]? = some v → Value.okWide Try.prog W .any base t v := hval0
  have hW' := hW
  obtain ⟨p, q, hA0, hV, rfl, hfz, hnd⟩ := hW
  have hA : DataW.TrodAll enc Try.prog W 0 (fun _ => true) true Try.f4.params.toList args.toList ds p := hA0
  rw [Try.params4] at hA hval
  obtain ⟨v0, vs0, d0, ds0, p0, q0, hargs, rfl, rfl, h0, r0⟩ := trodAll_cons hA
  obtain ⟨v1, vs1, d1, ds1, p1, q1, rfl, rfl, rfl, h1, r1⟩ := trodAll_cons r0
  obtain ⟨v2, vs2, d2, ds2, p2, q2, rfl, rfl, rfl, h2, r2⟩ := trodAll_cons r1
  obtain ⟨rfl, rfl, rfl⟩ := trodAll_nil r2
  obtain rfl : args = #[v0, v1, v2] := by cases args; simp_all
  obtain ⟨rfl, rfl⟩ := trodVars_none hV
  obtain ⟨a0, rfl, rfl, rfl, w0⟩ := open_string Try.underlying9 (hval 0 9 v0 rfl rfl) h0
  obtain ⟨a1, rfl, rfl, rfl, w1⟩ := open_int Try.underlying3 (hval 1 3 v1 rfl rfl) h1
  obtain ⟨a2, rfl, rfl, rfl, w2⟩ := open_int Try.underlying5 (hval 2 5 v2 rfl rfl) h2
  clear hA0 hval0
  simp only [List.append_nil] at hW'
  refine (walk a0 a1 a2 w0 w1 w2 W).mono fun e W' ⟨he, hg⟩ => ?_
  subst he
  exact ⟨_, rfl, post_of_same (pa := []) (pv := []) hW' (fun _ _ _ => (trodAll_cons_mk (shut_bool Try.underlying4 _) trodAll_mk0)) (fun sp _ => (trodAll_cons_mk (shut_string Try.underlying9 w0) (trodAll_cons_mk (shut_int Try.underlying3 w1) (trodAll_cons_mk (shut_int Try.underlying5 w2) trodAll_mk0)))) (fun _ _ => rfl) rfl
    (hg.frame _) hg.2.1 (ok_one (by kernel_rfl) rfl (okWide_bool_mk Try.underlying4 _))⟩

theorem over : Rows.fnRegexpEndOrdinaryByteInsertedRow.holds Try.pinned (OpenSpec.ofChange Rows.fnRegexpEndOrdinaryByteInsertedSpec) :=
  OpenClaim.holds_of_wide 4 Try.f4 rfl rfl rfl rfl rfl rfl rfl ⟨rfl, rfl, rfl, rfl, rfl⟩ rfl rfl rfl rfl rfl (by kernel_rfl) Try.func4 (by kernel_rfl)
    (of_decide_eq_true (by kernel_rfl)) (by unfold Func.isWrapper; first | (rw [if_pos (by decide +kernel)]; kernel_rfl) | (rw [if_neg (by decide +kernel)]; exact ⟨rfl, rfl⟩))
    (fun os started H enc _ => lifted os started H enc)

/-- ████ THE STATEMENT ████ -/
theorem proved : Rows.FnRegexpEndOrdinaryByteInsertedSaid :=
  over
end Go.Proofs.Qxb6632402a.fnRegexpEndOrdinaryByteInserted

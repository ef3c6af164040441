import Derived.WalkKit
namespace Go.Proofs.Qxb6632402a
open Go.RowKit

/-- where the closing slash lies in what follows the opening one -/
def pos : List UInt8 → Option Nat
  | [] => none
  | [c] => if c = 47 then some 0 else none
  | c :: d :: r => if c = 92 then (pos r).map (· + 2) else if c = 47 then some 0 else (pos (d :: r)).map (· + 1)
/-- does the scan, where it has met no slash, end by skipping one byte more? -/
def esc : List UInt8 → Bool
  | [] => false
  | [c] => c == 92
  | c :: d :: r => if c = 92 then esc r else esc (d :: r)

theorem pos_nil : pos [] = none := rfl
theorem pos_back (d : UInt8) (r : List UInt8) : pos (92 :: d :: r) = (pos r).map (· + 2) := by simp [pos]
theorem pos_slash (r : List UInt8) : pos (47 :: r) = some 0 := by cases r <;> simp [pos]
theorem pos_plain {c : UInt8} (h : c ≠ 92) (h' : c ≠ 47) (r : List UInt8) : pos (c :: r) = (pos r).map (· + 1) := by
  cases r with
  | nil => simp [pos, h']
  | cons d r => simp [pos, h, h']
theorem esc_plain {c : UInt8} (h : c ≠ 92) (r : List UInt8) : esc (c :: r) = esc r := by
  cases r with
  | nil => simp [esc, h]
  | cons d r => simp [esc, h]

theorem pos_append (t : List UInt8) : ∀ (n : Nat) (a : List UInt8), a.length ≤ n →
    (∀ k, pos a = some k → pos (a ++ t) = some k ∧ k < a.length) ∧
    (pos a = none → pos (a ++ t) = if esc a then (pos (t.drop 1)).map (· + (a.length + 1)) else (pos t).map (· + a.length)) := by
  intro n
  induction n with
  | zero =>
    intro a ha
    have : a = [] := List.eq_nil_of_length_eq_zero (by omega)
    subst this
    simp [pos, esc]
  | succ n ih =>
    intro a ha
    match a, ha with
    | [], _ => simp [pos, esc]
    | [c], _ =>
      by_cases h : c = 92
      · subst h
        cases t with
        | nil => simp [pos, esc]
        | cons d r => simp [pos, esc]
      · by_cases h' : c = 47
        · subst h'
          simp [pos_slash]
        · rw [List.singleton_append, pos_plain h h', pos_plain h h', esc_plain h]
          simp [pos, esc]
    | c :: d :: r, ha =>
      by_cases h : c = 92
      · subst h
        have i := ih r (by simp at ha; omega)
        rw [List.cons_append, List.cons_append, pos_back, pos_back]
        refine ⟨fun k hk => ?_, fun hk => ?_⟩
        · obtain ⟨j, hj, rfl⟩ := Option.map_eq_some_iff.1 hk
          have := i.1 j hj
          rw [this.1]
          simp; omega
        · have e : esc (92 :: d :: r) = esc r := by simp [esc]
          rw [i.2 (by simpa using hk), e]
          split
          · simp [Option.map_map, Function.comp_def, Nat.add_assoc]
          · simp [Option.map_map, Function.comp_def, Nat.add_assoc]
      · by_cases h' : c = 47
        · subst h'
          simp [pos_slash]
        · have i := ih (d :: r) (by simp at ha ⊢; omega)
          rw [List.cons_append, pos_plain h h', pos_plain h h', esc_plain h]
          refine ⟨fun k hk => ?_, fun hk => ?_⟩
          · obtain ⟨j, hj, rfl⟩ := Option.map_eq_some_iff.1 hk
            have := i.1 j hj
            rw [this.1]
            simp at this ⊢; omega
          · rw [i.2 (by simpa using hk)]
            split
            · simp [Option.map_map, Function.comp_def, Nat.add_assoc]
            · simp [Option.map_map, Function.comp_def, Nat.add_assoc]

theorem pos_get : ∀ (n : Nat) (a : List UInt8), a.length ≤ n → ∀ k, pos a = some k → a[k]? = some 47 := by
  intro n
  induction n with
  | zero =>
    intro a ha
    have : a = [] := List.eq_nil_of_length_eq_zero (by omega)
    subst this
    simp [pos]
  | succ n ih =>
    intro a ha k hk
    match a, ha with
    | [], _ => simp [pos] at hk
    | [c], _ =>
      by_cases h : c = 47
      · subst h; simp [pos] at hk; subst hk; simp
      · simp [pos, h] at hk
    | c :: d :: r, ha =>
      by_cases h : c = 92
      · subst h
        rw [pos_back] at hk
        obtain ⟨j, hj, rfl⟩ := Option.map_eq_some_iff.1 hk
        have := ih r (by simp at ha; omega) j hj
        simpa using this
      · by_cases h' : c = 47
        · subst h'
          rw [pos_slash] at hk
          simp at hk; subst hk; simp
        · rw [pos_plain h h'] at hk
          obtain ⟨j, hj, rfl⟩ := Option.map_eq_some_iff.1 hk
          have := ih (d :: r) (by simp at ha ⊢; omega) j hj
          simpa using this

theorem esc_last : ∀ (n : Nat) (a : List UInt8), a.length ≤ n → esc a = true → a.getLast? = some 92 := by
  intro n
  induction n with
  | zero =>
    intro a ha
    have : a = [] := List.eq_nil_of_length_eq_zero (by omega)
    subst this
    simp [esc]
  | succ n ih =>
    intro a ha h
    match a, ha with
    | [], _ => simp [esc] at h
    | [c], _ => simp [esc] at h; subst h; simp
    | c :: d :: r, ha =>
      by_cases hc : c = 92
      · subst hc
        have h' : esc r = true := by simpa [esc] using h
        have := ih r (by simp at ha; omega) h'
        cases r with
        | nil => simp [esc] at h'
        | cons x y => simpa [List.getLast?_cons_cons] using this
      · have h' : esc (d :: r) = true := by rwa [esc_plain hc] at h
        have := ih (d :: r) (by simp at ha ⊢; omega) h'
        simpa [List.getLast?_cons_cons] using this

/-- the answer as an int -/
def ans : Option Nat → Int
  | none => -1
  | some k => (k : Int) + 1
def rx (s : List UInt8) : Int := ans (pos (s.drop 1))

/-- where the scan of the rest stands while i runs -/
def at_ (l : List UInt8) (k : Nat) : Int := match pos (l.drop k) with
  | none => -1
  | some j => (k : Int) + j

theorem at_one (l : List UInt8) : at_ l 1 = rx l := by
  unfold at_ rx ans
  cases pos (l.drop 1) <;> simp
  omega
theorem at_end (l : List UInt8) (k : Nat) (h : l.length ≤ k) : at_ l k = -1 := by
  unfold at_
  rw [List.drop_eq_nil_of_le h]; rfl
theorem at_slash (l : List UInt8) (k : Nat) (h : k < l.length) (hc : l[k] = 47) : at_ l k = k := by
  unfold at_
  rw [List.drop_eq_getElem_cons h, hc, pos_slash]; simp
theorem at_back (l : List UInt8) (k : Nat) (h : k < l.length) (hc : l[k] = 92) : at_ l k = at_ l (k + 2) := by
  unfold at_
  rw [List.drop_eq_getElem_cons h, hc]
  by_cases h2 : k + 1 < l.length
  · rw [List.drop_eq_getElem_cons h2, pos_back]
    cases pos (l.drop (k + 1 + 1)) <;> simp
    omega
  · rw [List.drop_eq_nil_of_le (show l.length ≤ k + 1 by omega), List.drop_eq_nil_of_le (show l.length ≤ k + 2 by omega)]
    simp [pos]
theorem at_plain (l : List UInt8) (k : Nat) (h : k < l.length) (hc : l[k] ≠ 92) (hc' : l[k] ≠ 47) : at_ l k = at_ l (k + 1) := by
  unfold at_
  rw [List.drop_eq_getElem_cons h, pos_plain hc hc']
  cases pos (l.drop (k + 1)) <;> simp
  omega

/-- Every answer is -1 or the index, never 0, of a slash. -/
theorem rx_close (s : List UInt8) : rx s = -1 ∨ ∃ k, rx s = ((k + 1 : Nat) : Int) ∧ ∃ h : k + 1 < s.length, s[k + 1] = 47 := by
  unfold rx
  cases hp : pos (s.drop 1) with
  | none => exact .inl rfl
  | some k =>
    right
    have := pos_get _ _ (Nat.le_refl _) k hp
    rw [List.getElem?_drop, Nat.add_comm] at this
    obtain ⟨h, e⟩ := List.getElem?_eq_some_iff.1 this
    exact ⟨k, by simp [ans], h, e⟩

theorem rx_keep (s t : List UInt8) (h : 0 ≤ rx s) : rx (s ++ t) = rx s := by
  cases s with
  | nil => simp [rx, pos, ans] at h
  | cons x a =>
    simp only [rx, List.cons_append, List.drop_succ_cons, List.drop_zero] at h ⊢
    cases hp : pos a with
    | none => rw [hp] at h; simp [ans] at h
    | some k => rw [((pos_append t _ a (Nat.le_refl _)).1 k hp).1]

/-- The law of the cut. -/
theorem rx_cut (s t : List UInt8) (h : rx s < 0) :
    (rx (s ++ [47]) = s.length ∧ ((0 ≤ rx (47 :: t) ∧ rx (s ++ t) = s.length + rx (47 :: t) - 1) ∨ (rx (47 :: t) < 0 ∧ rx (s ++ t) = -1))) ∨
    (rx (s ++ [47]) ≠ s.length ∧ ((0 ≤ rx t ∧ rx (s ++ t) = s.length + rx t) ∨ (rx t < 0 ∧ rx (s ++ t) = -1))) := by
  cases s with
  | nil =>
    right
    refine ⟨by simp [rx, pos, ans], ?_⟩
    rw [List.nil_append]
    rcases rx_close t with e | ⟨k, e, _⟩
    · right; omega
    · left; simp; omega
  | cons x a =>
    simp only [rx, List.cons_append, List.drop_succ_cons, List.drop_zero] at h ⊢
    have hp : pos a = none := by
      cases hp : pos a with
      | none => rfl
      | some k => rw [hp] at h; simp [ans] at h; omega
    have e1 := (pos_append [47] _ a (Nat.le_refl _)).2 hp
    have e2 := (pos_append t _ a (Nat.le_refl _)).2 hp
    rw [e1, e2]
    cases he : esc a with
    | true =>
      right
      simp only [if_true]
      refine ⟨by simp [pos, ans]; omega, ?_⟩
      cases pos (t.drop 1) with
      | none => right; simp [ans]
      | some k => left; simp [ans]; omega
    | false =>
      left
      simp only [Bool.false_eq_true, if_false]
      refine ⟨by simp [pos, ans], ?_⟩
      cases pos t with
      | none => right; simp [ans]
      | some k => left; simp [ans]; omega

/-- The law of the byte put in: s = a ++ b, a not empty, its last byte (beyond the first) no backslash. -/
theorem rx_put (a b : List UInt8) (c : UInt8) (ha : 0 < a.length) (hl : 2 ≤ a.length → a.getLast? ≠ some 92) (h : c ≠ 92) (h' : c ≠ 47) :
    (0 ≤ rx (a ++ b) ∧ rx (a ++ b) < a.length ∧ rx (a ++ c :: b) = rx (a ++ b)) ∨ ((a.length : Int) ≤ rx (a ++ b) ∧ rx (a ++ c :: b) = rx (a ++ b) + 1) ∨ (rx (a ++ b) < 0 ∧ rx (a ++ c :: b) = -1) := by
  match a, ha with
  | x :: a, _ =>
    have he : esc a = false := by
      cases he : esc a with
      | false => rfl
      | true =>
        have hl' := esc_last _ a (Nat.le_refl _) he
        cases a with
        | nil => simp [esc] at he
        | cons y z =>
          have := hl (by simp)
          rw [List.getLast?_cons_cons] at this
          exact absurd hl' this
    simp only [rx, List.cons_append, List.drop_succ_cons, List.drop_zero]
    cases hp : pos a with
    | some k =>
      left
      have e1 := (pos_append b _ a (Nat.le_refl _)).1 k hp
      have e2 := (pos_append (c :: b) _ a (Nat.le_refl _)).1 k hp
      rw [e1.1, e2.1]
      simp [ans]; omega
    | none =>
      right
      have e1 := (pos_append b _ a (Nat.le_refl _)).2 hp
      have e2 := (pos_append (c :: b) _ a (Nat.le_refl _)).2 hp
      rw [e1, e2, he, pos_plain h h']
      simp only [Bool.false_eq_true, if_false]
      cases pos b with
      | none => right; simp [ans]
      | some k => left; simp [ans]; omega

end Go.Proofs.Qxb6632402a

import Derived.Lib.Strings
namespace Go.Proofs.Qxb6630867a

def within (g p : List UInt8) : Bool := g == p || Lib.hasSuffix g (46 :: p)

def Ends (q : List UInt8) : Prop := q = [] ∨ ∃ r, q = r ++ [46]

theorem within_iff (g p : List UInt8) : within g p = true ↔ ∃ q, g = q ++ p ∧ Ends q := by
  unfold within Lib.hasSuffix
  rw [Bool.or_eq_true, beq_iff_eq, List.isSuffixOf_iff_suffix]
  constructor
  · rintro (rfl | ⟨t, ht⟩)
    · exact ⟨[], rfl, .inl rfl⟩
    · exact ⟨t ++ [46], by rw [← ht]; simp, .inr ⟨t, rfl⟩⟩
  · rintro ⟨q, rfl, rfl | ⟨r, rfl⟩⟩
    · exact .inl rfl
    · exact .inr ⟨r, by simp⟩

theorem suffix_of_app (q p : List UInt8) : Lib.hasSuffix (q ++ p) p = true := by
  unfold Lib.hasSuffix
  rw [List.isSuffixOf_iff_suffix]
  exact ⟨q, rfl⟩

theorem trim_app (q p : List UInt8) : Lib.trimSuffix (q ++ p) p = q := by
  unfold Lib.trimSuffix
  rw [if_pos (suffix_of_app q p)]
  simp

theorem ends_tail {q1 r : List UInt8} (h : Ends (q1 ++ r)) : Ends r := by
  rcases h with h | ⟨t, ht⟩
  · exact .inl (List.append_eq_nil_iff.1 h).2
  · cases hr : r.getLast? with
    | none => exact .inl (List.getLast?_eq_none_iff.1 hr)
    | some x =>
      obtain ⟨r', rfl⟩ := List.getLast?_eq_some_iff.1 hr
      rw [← List.append_assoc] at ht
      have := List.append_inj_right' ht rfl
      exact .inr ⟨r', by rw [this]⟩

theorem two_within {g a b : List UInt8} (ha : within g a = true) (hb : within g b = true) : within a b = true ∨ within b a = true := by
  obtain ⟨q1, h1, e1⟩ := (within_iff g a).1 ha
  obtain ⟨q2, h2, e2⟩ := (within_iff g b).1 hb
  rw [h1] at h2
  rcases List.append_eq_append_iff.1 h2 with ⟨r, hr1, hr2⟩ | ⟨r, hr1, hr2⟩
  · exact .inl ((within_iff a b).2 ⟨r, hr2, ends_tail (hr1 ▸ e2)⟩)
  · exact .inr ((within_iff b a).2 ⟨r, hr2, ends_tail (hr1 ▸ e1)⟩)

def Disj (xs : List (List UInt8)) : Prop := ∀ i j, i < j → ∀ (hj : j < xs.length) (hi : i < xs.length), within xs[i] xs[j] = false ∧ within xs[j] xs[i] = false

theorem Disj.uniq {xs : List (List UInt8)} (h : Disj xs) {g : List UInt8} {i j : Nat} (hi : i < xs.length) (hj : j < xs.length) (wi : within g xs[i] = true) (wj : within g xs[j] = true) : i = j := by
  rcases Nat.lt_trichotomy i j with hlt | he | hlt
  · have := h i j hlt hj hi
    rcases two_within wi wj with h1 | h1 <;> simp [h1] at this
  · exact he
  · have := h j i hlt hi hj
    rcases two_within wi wj with h1 | h1 <;> simp [h1] at this

def grp : List (List UInt8 × List UInt8) → List UInt8 → List UInt8 × Bool
  | [], g => (g, false)
  | (o, n) :: r, g => if within g o then (Lib.trimSuffix g o ++ n, true) else grp r g

theorem grp_spec (g : List UInt8) : ∀ ps : List (List UInt8 × List UInt8), (∃ i, ∃ hi : i < ps.length, within g ps[i].1 = true ∧ grp ps g = (Lib.trimSuffix g ps[i].1 ++ ps[i].2, true)) ∨ ((∀ i, ∀ hi : i < ps.length, within g ps[i].1 = false) ∧ grp ps g = (g, false))
  | [] => .inr ⟨fun i hi => absurd hi (Nat.not_lt_zero _), rfl⟩
  | (o, n) :: r => by
    by_cases h : within g o = true
    · exact .inl ⟨0, by simp, h, by simp [grp, h]⟩
    · have hf : within g o = false := by simpa using h
      have e : grp ((o, n) :: r) g = grp r g := by simp [grp, hf]
      rw [e]
      rcases grp_spec g r with ⟨i, hi, h1, h2⟩ | ⟨h1, h2⟩
      · exact .inl ⟨i + 1, by simpa using hi, by simpa using h1, by simpa using h2⟩
      · refine .inr ⟨fun i hi => ?_, h2⟩
        cases i with
        | zero => exact hf
        | succ i => simpa using h1 i (by simpa using hi)

theorem grp_at {ps : List (List UInt8 × List UInt8)} (hd : Disj (ps.map Prod.fst)) {g : List UInt8} {i : Nat} (hi : i < ps.length) (h : within g ps[i].1 = true) : grp ps g = (Lib.trimSuffix g ps[i].1 ++ ps[i].2, true) := by
  rcases grp_spec g ps with ⟨j, hj, h1, h2⟩ | ⟨h1, _⟩
  · have : i = j := hd.uniq (i := i) (j := j) (by simpa using hi) (by simpa using hj) (by simpa using h) (by simpa using h1)
    subst this
    exact h2
  · rw [h1 i hi] at h
    cases h

theorem grp_none {ps : List (List UInt8 × List UInt8)} {g : List UInt8} (h : ∀ i, ∀ hi : i < ps.length, within g ps[i].1 = false) : grp ps g = (g, false) := by
  rcases grp_spec g ps with ⟨j, hj, h1, _⟩ | ⟨_, h2⟩
  · rw [h j hj] at h1
    cases h1
  · exact h2

theorem grp_skip (g o n : List UInt8) (h : within g o = false) : ∀ a b : List (List UInt8 × List UInt8), grp (a ++ (o, n) :: b) g = grp (a ++ b) g
  | [], b => by simp [grp, h]
  | (x, y) :: a, b => by simp [grp, grp_skip g o n h a b]

theorem within_self (o : List UInt8) : within o o = true := by simp [within]

theorem within_dot (p o : List UInt8) : within (p ++ [46] ++ o) o = true := (within_iff _ _).2 ⟨p ++ [46], rfl, .inr ⟨p, rfl⟩⟩

end Go.Proofs.Qxb6630867a

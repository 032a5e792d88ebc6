/-
  THE PLAIN LAW of 'stringEnd' and of the escape-flag scan: no Go in sight. One function 'sc' on the bytes that are left; both loops carry 'G' along.
-/
namespace Go.Proofs.Ybulkcate.Scan

/-- What is found in the bytes that are left, the first of them at place i: where the string ends, and whether no escape came. -/
def sc : List UInt8 → Nat → Bool → Nat × Bool
  | [], i, p => (i, p)
  | [c], i, p => if c = 34 ∨ c < 32 then (i, p) else if c = 92 then (i + 1, false) else (i + 1, p)
  | c :: d :: r, i, p => if c = 34 ∨ c < 32 then (i, p) else if c = 92 then sc r (i + 2) false else sc (d :: r) (i + 1) p

/-- At place k of the whole text (k may lie behind its end). -/
def G (l : List UInt8) (k : Nat) (p : Bool) : Nat × Bool := sc (l.drop k) (min k l.length) p

theorem G_end (l : List UInt8) (k : Nat) (p : Bool) (h : l.length ≤ k) : G l k p = (l.length, p) := by
  unfold G
  rw [List.drop_eq_nil_of_le h, Nat.min_eq_right h]
  rfl

theorem sc_stop (c : UInt8) (r : List UInt8) (i : Nat) (p : Bool) (h : c = 34 ∨ c < 32) : sc (c :: r) i p = (i, p) := by
  cases r <;> simp [sc, h]

theorem G_stop (l : List UInt8) (k : Nat) (p : Bool) (hk : k < l.length) (h : l[k] = 34 ∨ l[k] < 32) : G l k p = (k, p) := by
  unfold G
  rw [List.drop_eq_getElem_cons hk, Nat.min_eq_left (by omega)]
  exact sc_stop _ _ _ _ h

theorem G_esc (l : List UInt8) (k : Nat) (p : Bool) (hk : k < l.length) (h : l[k] = 92) : G l k p = G l (k + 2) false := by
  unfold G
  rw [List.drop_eq_getElem_cons hk, Nat.min_eq_left (by omega), h]
  by_cases h1 : k + 1 < l.length
  · rw [List.drop_eq_getElem_cons h1, Nat.min_eq_left (by omega)]
    show (if (92 : UInt8) = 34 ∨ (92 : UInt8) < 32 then _ else _) = _
    rw [if_neg (by decide), if_pos rfl]
  · rw [List.drop_eq_nil_of_le (by omega : l.length ≤ k + 1), List.drop_eq_nil_of_le (by omega : l.length ≤ k + 2), Nat.min_eq_right (by omega)]
    show (if (92 : UInt8) = 34 ∨ (92 : UInt8) < 32 then _ else _) = _
    rw [if_neg (by decide), if_pos rfl]
    show (k + 1, false) = (l.length, false)
    rw [show k + 1 = l.length by omega]

theorem G_plain (l : List UInt8) (k : Nat) (p : Bool) (hk : k < l.length) (h1 : ¬ (l[k] = 34 ∨ l[k] < 32)) (h2 : ¬ l[k] = 92) : G l k p = G l (k + 1) p := by
  unfold G
  rw [List.drop_eq_getElem_cons hk, Nat.min_eq_left (by omega), Nat.min_eq_left (by omega : k + 1 ≤ l.length)]
  by_cases h3 : k + 1 < l.length
  · rw [List.drop_eq_getElem_cons h3]
    simp only [sc, if_neg h1, if_neg h2]
  · rw [List.drop_eq_nil_of_le (by omega : l.length ≤ k + 1)]
    simp only [sc, if_neg h1, if_neg h2]

/-- All that the built law asks, by induction on the bytes left. -/
theorem sc_facts : ∀ (n : Nat) (r : List UInt8) (i : Nat) (p : Bool), r.length ≤ n →
    i ≤ (sc r i p).1 ∧ (sc r i p).1 ≤ i + r.length ∧ (∀ h : (sc r i p).1 - i < r.length, r[(sc r i p).1 - i] = 34 ∨ r[(sc r i p).1 - i] < 32) ∧
    ((sc r i p).2 = true ↔ (p = true ∧ ∀ j, (hj : j < (sc r i p).1 - i) → (hr : j < r.length) → r[j] ≠ 92)) := by
  intro n
  induction n with
  | zero =>
    intro r i p h
    have : r = [] := List.eq_nil_of_length_eq_zero (by omega)
    subst this
    simp [sc]
  | succ n ih =>
    intro r i p h
    match r, h with
    | [], _ => simp [sc]
    | [c], _ =>
      simp only [sc]
      split
      · rename_i hs
        simp [hs]
      · rename_i hs
        split
        · rename_i he
          simp [he]
        · rename_i he
          refine ⟨by simp, by simp, fun h => by simp at h, ?_⟩
          simp only []
          constructor
          · intro hp
            refine ⟨hp, fun j hj hr => ?_⟩
            have : j = 0 := by simp at hr; omega
            subst this
            simpa using he
          · exact fun h => h.1
    | c :: d :: r, h =>
      simp only [sc]
      split
      · rename_i hs
        simp [hs]
      · rename_i hs
        split
        · rename_i he
          obtain ⟨a1, a2, a3, a4⟩ := ih r (i + 2) false (by simp at h; omega)
          refine ⟨by omega, by simp; omega, fun hh => ?_, ?_⟩
          · have e : (sc r (i + 2) false).1 - i = (sc r (i + 2) false).1 - (i + 2) + 2 := by omega
            have hh' : (sc r (i + 2) false).1 - (i + 2) < r.length := by simp at hh; omega
            have := a3 hh'
            simp only [e]
            simpa using this
          · constructor
            · intro hp
              exact absurd (a4.1 hp).1 (by simp)
            · rintro ⟨_, hall⟩
              exact absurd he (hall 0 (by omega) (by simp))
        · rename_i he
          obtain ⟨a1, a2, a3, a4⟩ := ih (d :: r) (i + 1) p (by simp at h ⊢; omega)
          refine ⟨by omega, by simp at a2 ⊢; omega, fun hh => ?_, ?_⟩
          · have e : (sc (d :: r) (i + 1) p).1 - i = (sc (d :: r) (i + 1) p).1 - (i + 1) + 1 := by omega
            have hh' : (sc (d :: r) (i + 1) p).1 - (i + 1) < (d :: r).length := by simp at hh ⊢; omega
            have := a3 hh'
            simp only [e, List.getElem_cons_succ]
            exact this
          · rw [a4]
            constructor
            · rintro ⟨hp, hall⟩
              refine ⟨hp, fun j hj hr => ?_⟩
              match j, hj, hr with
              | 0, _, _ => simpa using he
              | j + 1, hj, hr => simpa using hall j (by omega) (by simp at hr ⊢; omega)
            · rintro ⟨hp, hall⟩
              refine ⟨hp, fun j hj hr => ?_⟩
              exact hall (j + 1) (by omega) (by simp at hr ⊢; omega)

theorem G_facts (l : List UInt8) (k : Nat) :
    min k l.length ≤ (G l k true).1 ∧ (G l k true).1 ≤ l.length ∧ (∀ h : (G l k true).1 < l.length, l[(G l k true).1] = 34 ∨ l[(G l k true).1] < 32) ∧
    ((G l k true).2 = true ↔ ∀ j, min k l.length ≤ j → j < (G l k true).1 → (hr : j < l.length) → l[j] ≠ 92) := by
  by_cases hk : k ≤ l.length
  · have e : min k l.length = k := Nat.min_eq_left hk
    obtain ⟨a1, a2, a3, a4⟩ := sc_facts (l.drop k).length (l.drop k) k true (Nat.le_refl _)
    unfold G
    rw [e]
    simp only [List.length_drop] at a2 a3
    refine ⟨a1, by omega, fun h => ?_, ?_⟩
    · have := a3 (by omega)
      simp only [List.getElem_drop] at this
      have e2 : k + ((sc (List.drop k l) k true).fst - k) = (sc (List.drop k l) k true).fst := by omega
      simp only [e2] at this
      exact this
    · rw [a4]
      constructor
      · rintro ⟨_, hall⟩ j h1 h2 hr
        have := hall (j - k) (by omega) (by simp; omega)
        simp only [List.getElem_drop] at this
        have e2 : k + (j - k) = j := by omega
        simp only [e2] at this
        exact this
      · intro hall
        refine ⟨rfl, fun j hj hr => ?_⟩
        simp only [List.getElem_drop]
        exact hall (k + j) (by omega) (by omega) (by simp at hr; omega)
  · rw [G_end l k true (by omega)]
    rw [Nat.min_eq_right (by omega)]
    refine ⟨Nat.le_refl _, Nat.le_refl _, fun h => by simp at h, ?_⟩
    simp only [true_iff]
    intro j h1 h2 hr
    omega

end Go.Proofs.Ybulkcate.Scan

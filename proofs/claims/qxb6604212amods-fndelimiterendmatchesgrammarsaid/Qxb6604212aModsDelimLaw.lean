/-
  THE PLAIN LAW: where a delimiter's padding ends. No Go in sight.
-/
namespace Go.Proofs.Qxb6604212aMods.Plain

def padB (c : Int) : Bool := decide (c = 32 ∨ c = 9)
theorem pad_13 : padB 13 = false := by decide
theorem padB_iff (c : Int) : padB c = true ↔ (c = 32 ∨ c = 9) := by simp [padB]

/-- from o on, i is the first place that is no padding, or the end n -/
structure IsEnd (Z : Nat → Int) (o n i : Nat) : Prop where
  ge : o ≤ i
  le : i ≤ n
  pads : ∀ j, o ≤ j → j < i → padB (Z j) = true
  stop : i < n → padB (Z i) = false

theorem IsEnd.unique {Z : Nat → Int} {o n i k : Nat} (h : IsEnd Z o n i) (g : IsEnd Z o n k) : i = k := by
  rcases Nat.lt_trichotomy i k with h1 | h1 | h1
  · have a := g.pads i h.ge h1
    have b := h.stop (Nat.lt_of_lt_of_le h1 g.le)
    rw [a] at b; cases b
  · exact h1
  · have a := h.pads k g.ge h1
    have b := g.stop (Nat.lt_of_lt_of_le h1 h.le)
    rw [a] at b; cases b

theorem exists_end (Z : Nat → Int) (o m : Nat) : ∃ i, IsEnd Z o (o + m) i := by
  induction m with
  | zero => exact ⟨o, Nat.le_refl _, Nat.le_refl _, fun j h1 h2 => by omega, fun h => by omega⟩
  | succ m ih =>
    obtain ⟨i, hi⟩ := ih
    by_cases h : i < o + m
    · exact ⟨i, hi.ge, by have := hi.le; omega, hi.pads, fun _ => hi.stop h⟩
    · have he : i = o + m := by have := hi.le; omega
      subst he
      by_cases hp : padB (Z (o + m)) = true
      · refine ⟨o + (m + 1), by omega, by omega, fun j h1 h2 => ?_, fun h => by omega⟩
        by_cases e : j = o + m
        · rw [e]; exact hp
        · exact hi.pads j h1 (by omega)
      · exact ⟨o + m, by omega, by omega, hi.pads, fun _ => by simpa using hp⟩

/-- the length of padding and CRLF -/
def plV (Z : Nat → Int) (o n i : Nat) : Int := if i + 1 < n ∧ Z i = 13 ∧ Z (i + 1) = 10 then (i : Int) + 2 - (o : Int) else 0
/-- may it grow to padding and CRLF? -/
def grB (Z : Nat → Int) (n i : Nat) : Bool := decide (i = n ∨ (i + 1 = n ∧ Z i = 13))
/-- is all of it padding? -/
def alB (n i : Nat) : Bool := decide (i = n)

theorem plV_no {Z : Nat → Int} {o n i : Nat} (h : ¬ (i + 1 < n ∧ Z i = 13 ∧ Z (i + 1) = 10)) : plV Z o n i = 0 := if_neg h
theorem plV_yes {Z : Nat → Int} {o n i : Nat} (h : i + 1 < n ∧ Z i = 13 ∧ Z (i + 1) = 10) : plV Z o n i = (i : Int) + 2 - (o : Int) := if_pos h
theorem grB_yes {Z : Nat → Int} {n i : Nat} (h : i = n ∨ (i + 1 = n ∧ Z i = 13)) : grB Z n i = true := by simpa [grB] using h
theorem grB_no {Z : Nat → Int} {n i : Nat} (h : ¬ (i = n ∨ (i + 1 = n ∧ Z i = 13))) : grB Z n i = false := by
  unfold grB; exact decide_eq_false h
theorem alB_yes {n i : Nat} (h : i = n) : alB n i = true := by simpa [alB] using h
theorem alB_no {n i : Nat} (h : ¬ i = n) : alB n i = false := by simpa [alB] using h

/-- a shorter run: one place less -/
theorem IsEnd.shorter {Z : Nat → Int} {o n i : Nat} (h : IsEnd Z o (n + 1) i) (hn : o ≤ n) : ∃ k, IsEnd Z o n k ∧ (k = n ↔ (i = n ∨ i = n + 1)) := by
  by_cases hi : i ≤ n
  · refine ⟨i, ⟨h.ge, hi, h.pads, fun h' => h.stop (by omega)⟩, by omega⟩
  · have := h.le
    exact ⟨n, ⟨hn, Nat.le_refl _, fun j h1 h2 => h.pads j h1 (by omega), fun h' => by omega⟩, by omega⟩

/-- the common answer behind the head: 'two': two dashes were read -/
def ansN (Z : Nat → Int) (n i : Nat) (two atEnd : Bool) : Int :=
  if i = n then (if two && atEnd then 2 else -1)
  else if Z i ≠ 13 then 0 else if i + 1 = n then -1 else if Z (i + 1) ≠ 10 then 0 else if two then 2 else (i : Int) + 2
def ansF (Z : Nat → Int) (n i : Nat) (two atEnd : Bool) : Bool :=
  if i = n then (two && atEnd)
  else if Z i ≠ 13 then false else if i + 1 = n then false else if Z (i + 1) ≠ 10 then false else two

end Go.Proofs.Qxb6604212aMods.Plain

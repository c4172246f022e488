import Ieee.Arith
namespace Go.Proofs.Qxb6603642aMods.Plain
open Ieee

/-- the word is a NaN's -/
def nanB (x : Nat) : Bool := (double.read x).isNaN
/-- a word's kind: all NaNs are one -/
def cl (x : Nat) : Option Nat := if nanB x = true then none else some x

theorem infRung_val : double.infRung = 9218868437227405312 := by decide +kernel
theorem signWeight_val : double.signWeight = 9223372036854775808 := by decide +kernel
theorem binade_val : double.binade = 4503599627370496 := by decide +kernel

theorem word_not_nan (s : Bool) (r : Nat) (h : r ≤ double.infRung) : nanB (double.word s r) = false := by
  have e : double.word s r % double.signWeight = r := by
    rw [infRung_val] at h
    unfold Format.word
    rw [signWeight_val]
    split <;> omega
  unfold nanB Format.read
  simp only [e]
  split
  · rfl
  · split
    · rfl
    · split
      · rfl
      · rw [infRung_val] at *; omega

theorem write_not_nan (d : Datum) (h : d.isNaN = false) : nanB (double.write d) = false := by
  cases d with
  | number s m p =>
    show nanB (double.nearest s m p) = false
    unfold Format.nearest
    split
    · exact word_not_nan _ _ (Nat.zero_le _)
    · exact word_not_nan _ _ (Nat.min_le_right _ _)
  | infinity s => exact word_not_nan _ _ (Nat.le_refl _)
  | nan s t => simp [Datum.isNaN] at h

theorem sum_not_nan {a b d : Datum} (h : a.sum b = some d) : d.isNaN = false := by
  unfold Datum.sum at h
  split at h
  · cases h
  · cases h
  · split at h
    · cases h; rfl
    · cases h
  · cases h; rfl
  · cases h; rfl
  · simp only [Option.some.injEq] at h; rw [← h]; rfl

theorem product_not_nan {a b d : Datum} (h : a.product b = some d) : d.isNaN = false := by
  unfold Datum.product at h
  split at h
  · cases h
  · cases h
  · cases h; rfl
  · split at h <;> cases h; rfl
  · split at h <;> cases h; rfl
  · cases h; rfl

theorem product_comm (a b : Datum) : a.product b = b.product a := by
  cases a <;> cases b <;> simp [Datum.product, Bool.xor_comm, Nat.mul_comm, Int.add_comm]

theorem mul_comm (x y : Nat) : double.mul x y = double.mul y x := by
  unfold Format.mul; rw [product_comm]

theorem add_not_nan {x y r : Nat} (h : double.add x y = some r) : nanB r = false := by
  unfold Format.add at h
  cases e : (double.read x).sum (double.read y) with
  | none => rw [e] at h; cases h
  | some d => rw [e] at h; simp at h; rw [← h]; exact write_not_nan d (sum_not_nan e)

theorem mul_not_nan {x y r : Nat} (h : double.mul x y = some r) : nanB r = false := by
  unfold Format.mul at h
  cases e : (double.read x).product (double.read y) with
  | none => rw [e] at h; cases h
  | some d => rw [e] at h; simp at h; rw [← h]; exact write_not_nan d (product_not_nan e)

theorem isNaN_form {d : Datum} (h : d.isNaN = true) : ∃ s t, d = .nan s t := by
  cases d with
  | nan s t => exact ⟨s, t, rfl⟩
  | number s m p => simp [Datum.isNaN] at h
  | infinity s => simp [Datum.isNaN] at h

theorem add_nan_left {x y : Nat} (h : nanB x = true) : double.add x y = none := by
  obtain ⟨s, t, e⟩ := isNaN_form h
  unfold Format.add; rw [e]; rfl
theorem add_nan_right {x y : Nat} (h : nanB y = true) : double.add x y = none := by
  obtain ⟨s, t, e⟩ := isNaN_form h
  unfold Format.add; rw [e]; cases double.read x <;> rfl
theorem mul_nan_left {x y : Nat} (h : nanB x = true) : double.mul x y = none := by
  obtain ⟨s, t, e⟩ := isNaN_form h
  unfold Format.mul; rw [e]; rfl
theorem mul_nan_right {x y : Nat} (h : nanB y = true) : double.mul x y = none := by
  rw [mul_comm]; exact mul_nan_left h

/-- sum and product of kinds -/
def addC (p q : Option Nat) : Option Nat := p.bind fun x => q.bind fun y => double.add x y
def mulC (p q : Option Nat) : Option Nat := p.bind fun x => q.bind fun y => double.mul x y

theorem addC_cl (x y : Nat) : addC (cl x) (cl y) = double.add x y := by
  unfold cl addC
  by_cases hx : nanB x = true
  · rw [if_pos hx, add_nan_left hx]; rfl
  · by_cases hy : nanB y = true
    · rw [if_pos hy, if_neg hx, add_nan_right hy]; rfl
    · rw [if_neg hx, if_neg hy]; rfl
theorem mulC_cl (x y : Nat) : mulC (cl x) (cl y) = double.mul x y := by
  unfold cl mulC
  by_cases hx : nanB x = true
  · rw [if_pos hx, mul_nan_left hx]; rfl
  · by_cases hy : nanB y = true
    · rw [if_pos hy, if_neg hx, mul_nan_right hy]; rfl
    · rw [if_neg hx, if_neg hy]; rfl

theorem mulC_comm (p q : Option Nat) : mulC p q = mulC q p := by
  cases p <;> cases q <;> simp [mulC, mul_comm]

theorem cl_add_some {x y r : Nat} (h : double.add x y = some r) : cl r = addC (cl x) (cl y) := by
  rw [addC_cl, h, cl, if_neg (by rw [add_not_nan h]; decide)]
theorem cl_add_none {x y r : Nat} (h : double.add x y = none) (hr : nanB r = true) : cl r = addC (cl x) (cl y) := by
  rw [addC_cl, h, cl, if_pos hr]
theorem cl_mul_some {x y r : Nat} (h : double.mul x y = some r) : cl r = mulC (cl x) (cl y) := by
  rw [mulC_cl, h, cl, if_neg (by rw [mul_not_nan h]; decide)]
theorem cl_mul_none {x y r : Nat} (h : double.mul x y = none) (hr : nanB r = true) : cl r = mulC (cl x) (cl y) := by
  rw [mulC_cl, h, cl, if_pos hr]

/-- the sum of the first k products, as a kind -/
def dotK (a b : List Nat) : Nat → Option Nat
  | 0 => some 0
  | k + 1 => addC (dotK a b k) (mulC (cl (a.getD k 0)) (cl (b.getD k 0)))

theorem dotK_comm (a b : List Nat) (k : Nat) : dotK a b k = dotK b a k := by
  induction k with
  | zero => rfl
  | succ k ih => rw [dotK, dotK, ih, mulC_comm]

theorem cl_zero : cl 0 = some 0 := by decide +kernel

/-- comparing a word with itself -/
theorem order_self {x : Nat} (h : nanB x = false) : double.order x x = some .eq := by
  unfold Format.order
  unfold nanB at h
  cases e : double.read x with
  | nan s t => rw [e] at h; simp [Datum.isNaN] at h
  | infinity s => simp [Datum.order]
  | number s m p => simp [Datum.order]
theorem order_nan_left {x y : Nat} (h : nanB x = true) : double.order x y = none := by
  obtain ⟨s, t, e⟩ := isNaN_form h
  unfold Format.order; rw [e]; rfl

theorem cl_cases {x y : Nat} (h : cl x = cl y) : (nanB x = true ∧ nanB y = true) ∨ (x = y ∧ nanB x = false) := by
  unfold cl at h
  by_cases hx : nanB x = true <;> by_cases hy : nanB y = true
  · exact .inl ⟨hx, hy⟩
  · rw [if_pos hx, if_neg hy] at h; cases h
  · rw [if_neg hx, if_pos hy] at h; cases h
  · rw [if_neg hx, if_neg hy] at h; exact .inr ⟨Option.some.inj h, by simpa using hx⟩

/-- what the model's tape hands back for a NaN is one -/
theorem drawn_nan (t : Nat) : nanB ((t % 2) * 2 ^ 63 + 0x7ff0000000000000 + 1 + (t / 2) % (2 ^ 52 - 1)) = true := by
  have h1 : t % 2 < 2 := Nat.mod_lt _ (by decide)
  have h2 : (t / 2) % (2 ^ 52 - 1) < 2 ^ 52 - 1 := Nat.mod_lt _ (by decide)
  generalize (t / 2) % (2 ^ 52 - 1) = u at *
  generalize t % 2 = v at *
  unfold nanB Format.read
  simp only [infRung_val, binade_val, signWeight_val]
  rw [if_neg (by omega), if_neg (by omega), if_neg (by omega)]
  rfl

/-- one divided by whatever is no NaN is valid -/
theorem one_div {x : Nat} (h : nanB x = false) : ∃ r, double.div 4607182418800017408 x = some r := by
  have e1 : double.read 4607182418800017408 = .number false 4503599627370496 (-52) := by decide +kernel
  unfold Format.div
  rw [e1]
  unfold nanB at h
  cases e : double.read x with
  | nan s t => rw [e] at h; simp [Datum.isNaN] at h
  | infinity s => exact ⟨_, rfl⟩
  | number s m p =>
    unfold Datum.quotient
    by_cases hm : m = 0
    · simp [hm]
    · simp [hm]

end Go.Proofs.Qxb6603642aMods.Plain

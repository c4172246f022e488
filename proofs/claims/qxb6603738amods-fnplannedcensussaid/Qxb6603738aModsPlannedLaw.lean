namespace Go.Proofs.Qxb6603738aMods.Plain

def fate (i : Int) : Int :=
  if i % 7 = 0 then 1 else if i % 5 = 0 then 2 else if i % 11 = 0 then 3 else if i % 13 = 0 then 4 else 0

theorem tmod_zero_iff (i n : Int) : (i.tmod n = 0) ↔ (i % n = 0) := by
  rw [← Int.dvd_iff_tmod_eq_zero, Int.dvd_iff_emod_eq_zero]

theorem fate_range (i : Int) : fate i = 0 ∨ fate i = 1 ∨ fate i = 2 ∨ fate i = 3 ∨ fate i = 4 := by
  unfold fate; (repeat' split) <;> simp

theorem fate_period (i : Int) : fate (i + 5005) = fate i := by
  unfold fate
  have h7 : (i + 5005) % 7 = i % 7 := by omega
  have h5 : (i + 5005) % 5 = i % 5 := by omega
  have h11 : (i + 5005) % 11 = i % 11 := by omega
  have h13 : (i + 5005) % 13 = i % 13 := by omega
  rw [h7, h5, h11, h13]

/-- how many of s, s+1, .., s+k-1 have the fate c -/
def cn (c s : Int) : Nat → Nat
  | 0 => 0
  | k + 1 => cn c s k + if fate (s + k) = c then 1 else 0

theorem cn_succ (c s : Int) (k : Nat) : cn c s (k + 1) = cn c s k + if fate (s + k) = c then 1 else 0 := rfl

theorem cn_le (c s : Int) (k : Nat) : cn c s k ≤ k := by
  induction k with
  | zero => exact Nat.le_refl _
  | succ k ih => rw [cn_succ]; split <;> omega

theorem cn_shift (c s : Int) (k : Nat) : cn c (s + 1) k + (if fate s = c then 1 else 0) = cn c s (k + 1) := by
  induction k with
  | zero => simp [cn]
  | succ k ih =>
    rw [cn_succ c s (k + 1), cn_succ c (s + 1) k, ← ih]
    have e : s + 1 + (k : Int) = s + ((k + 1 : Nat) : Int) := by omega
    rw [e]; omega

theorem cn_window_succ (c s : Int) : cn c (s + 1) 5005 = cn c s 5005 := by
  have h := cn_shift c s 5005
  rw [cn_succ c s 5005] at h
  have e : fate (s + ((5005 : Nat) : Int)) = fate s := fate_period s
  rw [e] at h
  omega

theorem cn_window_nat (c s : Int) (n : Nat) : cn c (s + n) 5005 = cn c s 5005 := by
  induction n with
  | zero => simp
  | succ n ih =>
    have e : s + ((n + 1 : Nat) : Int) = s + n + 1 := by omega
    rw [e, cn_window_succ, ih]

theorem cn_window (c s : Int) : cn c s 5005 = cn c 0 5005 := by
  by_cases h : 0 ≤ s
  · have := cn_window_nat c 0 s.toNat
    rw [show (0 : Int) + (s.toNat : Int) = s from by omega] at this
    exact this
  · have := cn_window_nat c s (-s).toNat
    rw [show s + ((-s).toNat : Int) = 0 from by omega] at this
    exact this.symm

theorem cn_add (c s : Int) (a b : Nat) : cn c s (a + b) = cn c s a + cn c (s + a) b := by
  induction b with
  | zero => simp [cn]
  | succ b ih =>
    rw [← Nat.add_assoc, cn_succ, cn_succ, ih]
    have e : s + ((a + b : Nat) : Int) = s + (a : Int) + (b : Int) := by omega
    rw [e]; omega

/-- a count that the kernel can run: split in halves -/
def cnB (c : Int) : (d : Nat) → (s : Int) → Nat
  | 0, s => if fate s = c then 1 else 0
  | d + 1, s => cnB c d s + cnB c d (s + 2 ^ d)

theorem cnB_eq (c : Int) (d : Nat) (s : Int) : cnB c d s = cn c s (2 ^ d) := by
  induction d generalizing s with
  | zero => simp [cnB, cn]
  | succ d ih =>
    rw [cnB, ih, ih, Nat.pow_succ, Nat.mul_comm, Nat.two_mul, cn_add]
    have e : s + ((2 ^ d : Nat) : Int) = s + 2 ^ d := by simp
    rw [e]

theorem cn_total (c : Int) : cn c 0 5005 = cnB c 12 0 + cnB c 9 4096 + cnB c 8 4608 + cnB c 7 4864 + cnB c 3 4992 + cnB c 2 5000 + cnB c 0 5004 := by
  have e : (5005 : Nat) = 2 ^ 12 + (2 ^ 9 + (2 ^ 8 + (2 ^ 7 + (2 ^ 3 + (2 ^ 2 + 2 ^ 0))))) := by decide
  rw [e, cn_add, cn_add, cn_add, cn_add, cn_add, cn_add]
  simp only [cnB_eq]
  simp
  omega

theorem census (s : Int) : cn 0 s 5005 = 2880 ∧ cn 1 s 5005 = 715 ∧ cn 2 s 5005 = 858 ∧ cn 3 s 5005 = 312 ∧ cn 4 s 5005 = 240 := by
  simp only [cn_window _ s, cn_total]
  decide +kernel

/-! the gcd -/
theorem small (p n : Nat) (h : 0 < p) (hp : (List.range p).all (fun r => (Nat.gcd p r == 1) == (r != 0)) = true) : (Nat.gcd p n = 1) ↔ n % p ≠ 0 := by
  have e : Nat.gcd p n = Nat.gcd p (n % p) := by rw [Nat.gcd_comm p (n % p), ← Nat.gcd_rec]
  rw [e]
  have := List.all_eq_true.1 hp (n % p) (by simpa using Nat.mod_lt n h)
  simp only [beq_iff_eq] at this
  rw [Bool.eq_iff_iff] at this
  simpa using this

theorem gcd_5005 (n : Nat) : (Nat.gcd 5005 n = 1) ↔ (n % 7 ≠ 0 ∧ n % 5 ≠ 0 ∧ n % 11 ≠ 0 ∧ n % 13 ≠ 0) := by
  rw [← small 7 n (by decide) (by decide), ← small 5 n (by decide) (by decide), ← small 11 n (by decide) (by decide), ← small 13 n (by decide) (by decide)]
  constructor
  · intro h
    have k : ∀ p, p ∣ 5005 → Nat.gcd p n = 1 := fun p hp => Nat.Coprime.coprime_dvd_left hp h
    exact ⟨k 7 (by decide), k 5 (by decide), k 11 (by decide), k 13 (by decide)⟩
  · rintro ⟨h7, h5, h11, h13⟩
    have : Nat.Coprime (7 * 5 * 11 * 13) n := Nat.Coprime.mul_left (Nat.Coprime.mul_left (Nat.Coprime.mul_left h7 h5) h11) h13
    exact this

theorem coprime_iff (i : Int) : (fate i = 0) ↔ (Nat.gcd 5005 i.natAbs = 1) := by
  rw [gcd_5005]
  unfold fate
  have h7 : i.natAbs % 7 = 0 ↔ i % 7 = 0 := by omega
  have h5 : i.natAbs % 5 = 0 ↔ i % 5 = 0 := by omega
  have h11 : i.natAbs % 11 = 0 ↔ i % 11 = 0 := by omega
  have h13 : i.natAbs % 13 = 0 ↔ i % 13 = 0 := by omega
  rw [Ne, Ne, Ne, Ne, h7, h5, h11, h13]
  (repeat' split) <;> simp_all

end Go.Proofs.Qxb6603738aMods.Plain

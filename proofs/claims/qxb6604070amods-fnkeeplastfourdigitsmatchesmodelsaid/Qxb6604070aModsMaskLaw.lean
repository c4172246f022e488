/-
  THE PLAIN LAW: keepLastFourDigits on lists of bytes. No Go in sight.
-/
namespace Go.Proofs.Qxb6604070aMods.Plain

/-- is the number an ASCII digit's? -/
def dB (c : Int) : Bool := decide (48 ≤ c ∧ c ≤ 57)
def isD (c : UInt8) : Bool := dB (c.toNat : Int)

theorem dB_true {c : Int} (h : dB c = true) : 48 ≤ c ∧ c ≤ 57 := by simpa [dB] using h
theorem dB_false {c : Int} (h : dB c = false) : ¬ (48 ≤ c ∧ c ≤ 57) := by simpa [dB] using h
theorem star_no : isD 42 = false := by decide

/-- how many digits -/
def cnt : List UInt8 → Nat
  | [] => 0
  | c :: cs => (if isD c then 1 else 0) + cnt cs

theorem cnt_append (a b : List UInt8) : cnt (a ++ b) = cnt a + cnt b := by
  induction a with
  | nil => simp [cnt]
  | cons c cs ih => simp only [List.cons_append, cnt, ih]; omega

theorem cnt_le (l : List UInt8) : cnt l ≤ l.length := by
  induction l with
  | nil => exact Nat.le_refl _
  | cons c cs ih => simp only [cnt, List.length_cons]; split <;> omega

theorem cnt_take_succ (l : List UInt8) (k : Nat) (h : k < l.length) : cnt (l.take (k + 1)) = cnt (l.take k) + if isD l[k] then 1 else 0 := by
  rw [List.take_succ_eq_append_getElem h, cnt_append]; simp [cnt]

theorem cnt_take_le (l : List UInt8) (k : Nat) : cnt (l.take k) ≤ k := by
  have := cnt_le (l.take k); rw [List.length_take] at this; omega

theorem cnt_take_total (l : List UInt8) (k : Nat) : cnt (l.take k) ≤ cnt l := by
  have := cnt_append (l.take k) (l.drop k); rw [List.take_append_drop] at this; omega

theorem cnt_take_mono (l : List UInt8) (j k : Nat) (h : j ≤ k) : cnt (l.take j) ≤ cnt (l.take k) := by
  have := cnt_take_total (l.take k) j
  rwa [List.take_take, Nat.min_eq_left h] at this

theorem cnt_split (l : List UInt8) (k : Nat) (h : k < l.length) : cnt l = cnt (l.take k) + (if isD l[k] then 1 else 0) + cnt (l.drop (k + 1)) := by
  have := cnt_append (l.take (k + 1)) (l.drop (k + 1))
  rw [List.take_append_drop] at this
  rw [this, cnt_take_succ l k h]

theorem cnt_drop (l : List UInt8) (k : Nat) (h : k < l.length) : cnt (l.drop k) = (if isD l[k] then 1 else 0) + cnt (l.drop (k + 1)) := by
  rw [List.drop_eq_getElem_cons h]; rfl

/-- how many digits are hidden, of t -/
def hid (t : Nat) : Nat := if t ≤ 4 then t else t - 4

theorem hid_le (t : Nat) : hid t ≤ t := by unfold hid; split <;> omega

/-- the byte at a place with p digits ahead of it, H to be hidden -/
def outC (H p : Nat) (c : UInt8) : UInt8 := if isD c = true ∧ p < H then 42 else c

def maskR (H : Nat) : Nat → List UInt8 → List UInt8
  | _, [] => []
  | p, c :: cs => outC H p c :: maskR H (p + if isD c then 1 else 0) cs

def keepL (l : List UInt8) : List UInt8 := maskR (hid (cnt l)) 0 l

theorem maskR_length (H p : Nat) (l : List UInt8) : (maskR H p l).length = l.length := by
  induction l generalizing p with
  | nil => rfl
  | cons c cs ih => simp [maskR, ih]

theorem maskR_get (H p : Nat) (l : List UInt8) (i : Nat) (h : i < l.length) : (maskR H p l)[i]? = some (outC H (p + cnt (l.take i)) l[i]) := by
  induction l generalizing p i with
  | nil => simp at h
  | cons c cs ih =>
    cases i with
    | zero => simp [maskR, cnt]
    | succ i =>
      simp only [maskR, List.getElem?_cons_succ, List.take_succ_cons, cnt, List.getElem_cons_succ]
      rw [ih _ i (by simpa using h), Nat.add_assoc]

theorem keepL_length (l : List UInt8) : (keepL l).length = l.length := maskR_length _ _ _
theorem keepL_get (l : List UInt8) (i : Nat) (h : i < l.length) : (keepL l)[i]? = some (outC (hid (cnt l)) (cnt (l.take i)) l[i]) := by
  have := maskR_get (hid (cnt l)) 0 l i h; rwa [Nat.zero_add] at this

theorem cnt_maskR (H p : Nat) (l : List UInt8) : cnt (maskR H p l) = cnt l - (H - p) := by
  induction l generalizing p with
  | nil => simp [maskR, cnt]
  | cons c cs ih =>
    simp only [maskR, cnt, ih]
    by_cases hc : isD c = true
    · by_cases hp : p < H
      · have e : outC H p c = 42 := by unfold outC; rw [if_pos ⟨hc, hp⟩]
        rw [e, star_no, hc]; simp; omega
      · have e : outC H p c = c := by unfold outC; rw [if_neg (fun h => hp h.2)]
        rw [e, hc]; simp; omega
    · have e : outC H p c = c := by unfold outC; rw [if_neg (fun h => hc h.1)]
      rw [e]; simp [hc]

theorem cnt_keepL (l : List UInt8) : cnt (keepL l) ≤ 4 := by
  unfold keepL
  rw [cnt_maskR]
  unfold hid
  split <;> omega

/-- hiding twice: the byte at place i -/
theorem twice_get (l : List UInt8) (i : Nat) (h : i < l.length) : (keepL (keepL l))[i]? = some (if isD l[i] then 42 else l[i]) := by
  have h1 := keepL_get l i h
  have h' : i < (keepL l).length := by rw [keepL_length]; exact h
  have e1 : (keepL l)[i] = outC (hid (cnt l)) (cnt (l.take i)) l[i] := by
    rw [List.getElem?_eq_getElem h'] at h1; exact Option.some.inj h1
  have h4 := cnt_keepL l
  have hh : hid (cnt (keepL l)) = cnt (keepL l) := by unfold hid; rw [if_pos h4]
  rw [keepL_get (keepL l) i h', hh]
  have hs := cnt_split (keepL l) i h'
  congr 1
  by_cases hd : isD l[i] = true
  · rw [if_pos hd]
    by_cases hk : isD (keepL l)[i] = true
    · unfold outC; rw [if_pos ⟨hk, by rw [if_pos hk] at hs; omega⟩]
    · have e2 : (keepL l)[i] = 42 := by
        rw [e1] at hk ⊢
        unfold outC at hk ⊢
        split
        · rfl
        · rename_i hn; rw [if_neg hn] at hk; exact absurd hd hk
      unfold outC; rw [if_neg (fun x => hk x.1)]; exact e2
  · rw [if_neg hd]
    have e2 : (keepL l)[i] = l[i] := by
      rw [e1]; unfold outC; rw [if_neg (fun x => hd x.1)]
    unfold outC
    rw [e2, if_neg (fun x => hd x.1)]

/-- the model's byte -/
theorem model_get (l : List UInt8) (i : Nat) (h : i < l.length) (hd : isD l[i] = true) :
    outC (hid (cnt l)) (cnt (l.take i)) l[i] = if 4 < cnt l ∧ cnt (l.drop (i + 1)) < 4 then l[i] else 42 := by
  have hs := cnt_split l i h
  rw [if_pos hd] at hs
  unfold outC hid
  by_cases h4 : cnt l ≤ 4
  · rw [if_pos h4, if_pos ⟨hd, by omega⟩, if_neg (by omega)]
  · rw [if_neg h4]
    by_cases ha : cnt (l.drop (i + 1)) < 4
    · rw [if_neg (by omega), if_pos (by omega)]
    · rw [if_pos ⟨hd, by omega⟩, if_neg (by omega)]

theorem plain_get (l : List UInt8) (i : Nat) (h : i < l.length) (hd : isD l[i] = false) : outC (hid (cnt l)) (cnt (l.take i)) l[i] = l[i] := by
  unfold outC; rw [if_neg (by simp [hd])]

end Go.Proofs.Qxb6604070aMods.Plain

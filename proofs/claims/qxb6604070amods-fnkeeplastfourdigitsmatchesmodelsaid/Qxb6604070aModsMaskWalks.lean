/-
  THE WALKS: isASCIIDigit, zzDigit, zzBytes.., keepLastFourDigits.
-/
import Derived.Test.Qxb6604070aModsRows
import Derived.Test.Qxb6604070aModsMaskLaw
import Derived.WalkKit
import Derived.WalkSpells
import Derived.WalkLawsBesides
import Derived.Laws.IdiomStrings
namespace Go.Proofs.Qxb6604070aMods
open Go.RowKit Plain
set_option linter.unusedVariables false

theorem ret_bool {a b : Bool} (h : a = b) : Ending.returned (.bool a) = .returned (.bool b) := by rw [h]
theorem num_eq {k : IntKind} {a b : Int} (h : a = b) : Value.int k a = .int k b := by rw [h]

theorem digit10 (c : Int) (w : World) : Calls Trym.prog 10 #[.int .u8 c] w fun e w' => e = .returned (.bool (dB c)) ∧ w' = w := by
  by_cases h1 : 48 ≤ c
  · by_cases h2 : c ≤ 57
    · go_enter Trym.func10, Trym.ntmps10
      go_wp2
      go_ret
      exact ⟨ret_bool (by simp [dB, h1, h2]), rfl⟩
    · go_enter Trym.func10, Trym.ntmps10
      go_wp2
      go_ret
      exact ⟨ret_bool (by simp [dB, h1, h2]), rfl⟩
  · go_enter Trym.func10, Trym.ntmps10
    go_wp2
    go_ret
    exact ⟨ret_bool (by simp [dB]; omega), rfl⟩

theorem digit7 (c : Int) (w : World) : Calls Trym.prog 7 #[.int .u8 c] w fun e w' => e = .returned (.bool (dB c)) ∧ w' = w := by
  by_cases h1 : 48 ≤ c
  · by_cases h2 : c ≤ 57
    · go_enter Trym.func7, Trym.ntmps7
      go_wp2
      go_ret
      exact ⟨ret_bool (by simp [dB, h1, h2]), rfl⟩
    · go_enter Trym.func7, Trym.ntmps7
      go_wp2
      go_ret
      exact ⟨ret_bool (by simp [dB, h1, h2]), rfl⟩
  · go_enter Trym.func7, Trym.ntmps7
    go_wp2
    go_ret
    exact ⟨ret_bool (by simp [dB]; omega), rfl⟩

/-- the bytes as a list -/
def byl (s : ByteArray) : List UInt8 := s.data.toList
theorem byl_length (s : ByteArray) : (byl s).length = s.size := Array.length_toList
theorem byl_get (s : ByteArray) (k : Nat) (h : k < s.size) : (byl s)[k]'(by rw [byl_length]; exact h) = s[k] := rfl

theorem cnt_step (s : ByteArray) (k : Nat) (h : k < s.size) : cnt ((byl s).take (k + 1)) = cnt ((byl s).take k) + if dB (s[k].toNat : Int) = true then 1 else 0 :=
  cnt_take_succ (byl s) k (by rw [byl_length]; exact h)

/-- what the second loop knows: of the k first places each digit is hidden, as long as H are not -/
structure Masked (w wr : World) (s : ByteArray) (H k : Nat) : Prop where
  cell : ∀ j (hj : j < s.size), wr.cell? ⟨w.heap.size, j, none⟩ = some (.int .u8 (((if j < k then outC H (cnt ((byl s).take j)) s[j] else s[j]).toNat : Nat) : Int))
  free : ∀ j, j < s.size → wr.frozen? ⟨w.heap.size, j, none⟩ = false
  below : Below w.heap.size w wr

theorem Masked.start (w : World) (s : ByteArray) (H cap : Nat) :
    Masked w (w.alloc (.cells (bytesRow s cap) 5 ((bytesRow s cap).size, (bytesRow s cap).size + 1))).drew s H 0 := by
  refine ⟨fun j hj => ?_, fun j hj => ?_, ((Below.refl _ _).alloc (Nat.le_refl _) _).drew⟩
  · show (w.alloc _).cell? _ = _
    rw [World.cell?_alloc_mark, bytesRow_at s cap j hj]
    rfl
  · show (w.alloc _).frozen? _ = _
    rw [World.frozen?_alloc_mark]
    have : s.size ≤ (bytesRow s cap).size := by
      unfold bytesRow; rw [Array.size_append, Array.size_map]; exact Nat.le_add_right _ _
    simp; omega

theorem Masked.pass {w wr : World} {s : ByteArray} {H k : Nat} (h : Masked w wr s H k) (hk : k < s.size) (hd : dB (s[k].toNat : Int) = false) : Masked w wr s H (k + 1) := by
  refine ⟨fun j hj => ?_, h.free, h.below⟩
  rw [h.cell j hj]
  by_cases e : j = k
  · subst e
    have : outC H (cnt ((byl s).take j)) s[j] = s[j] := by unfold outC; rw [if_neg (by simp [isD, hd])]
    rw [if_neg (by omega), if_pos (by omega), this]
  · by_cases e2 : j < k
    · rw [if_pos e2, if_pos (by omega)]
    · rw [if_neg e2, if_neg (by omega)]

theorem Masked.star {w wr : World} {s : ByteArray} {H k : Nat} (h : Masked w wr s H k) (hk : k < s.size) (hd : dB (s[k].toNat : Int) = true) (hc : cnt ((byl s).take k) < H) :
    Masked w (wr.setCell ⟨w.heap.size, k, none⟩ (.int .u8 42)) s H (k + 1) := by
  refine ⟨fun j hj => ?_, fun j hj => by rw [World.frozen?_setCell]; exact h.free j hj, h.below.setCell (Nat.le_refl _) _⟩
  by_cases e : j = k
  · subst e
    have : outC H (cnt ((byl s).take j)) s[j] = 42 := by unfold outC; rw [if_pos ⟨hd, hc⟩]
    rw [World.cell?_setCell_same _ _ _ (h.cell j hj), if_pos (by omega), this]
    rfl
  · have hne : (⟨w.heap.size, k, none⟩ : Addr) ≠ ⟨w.heap.size, j, none⟩ := fun he => by injection he with _ h1 _; exact e h1.symm
    rw [World.cell?_setCell_other _ _ _ _ hne, h.cell j hj]
    by_cases e2 : j < k
    · rw [if_pos e2, if_pos (by omega)]
    · rw [if_neg e2, if_neg (by omega)]

/-- behind the loop the bytes are the kept ones -/
theorem Masked.all {w wr : World} {s : ByteArray} {k : Nat} (h : Masked w wr s (hid (cnt (byl s))) k) (hc : hid (cnt (byl s)) ≤ cnt ((byl s).take k)) (cap : Nat) :
    (convert 25 9 (.slice (some ⟨w.heap.size, 0, none⟩) s.size cap)).run Trym.prog wr = .ok (.string ⟨(keepL (byl s)).toArray⟩) wr := by
  have hl : (keepL (byl s)).length = s.size := by rw [keepL_length, byl_length]
  rw [← hl]
  refine run_convert_bytes_back wr 25 9 5 ⟨w.heap.size, 0, none⟩ cap (keepL (byl s)) Trym.underlying25 Trym.underlying5 Trym.underlying9 (fun j hj => ?_)
  have hj' : j < s.size := by omega
  have ha : (⟨w.heap.size, 0, none⟩ : Addr).add j = ⟨w.heap.size, j, none⟩ := by unfold Addr.add; split <;> simp_all
  have hg := keepL_get (byl s) j (by rw [byl_length]; exact hj')
  rw [List.getElem?_eq_getElem hj] at hg
  rw [ha, h.cell j hj', Option.some.inj hg, byl_get s j hj']
  by_cases e : j < k
  · rw [if_pos e]
  · rw [if_neg e]
    have := cnt_take_mono (byl s) k j (by omega)
    unfold outC
    rw [if_neg (by omega)]

theorem len_of (s : ByteArray) (k : Nat) (h : cnt ((byl s).take k) < cnt (byl s)) : k < s.size := by
  rcases Nat.lt_or_ge k s.size with h' | h'
  · exact h'
  · rw [List.take_of_length_le (by rw [byl_length]; exact h')] at h
    omega

set_option maxHeartbeats 1000000 in
theorem keep_any (s : ByteArray) (w : World) (hs : s.size ≤ 1048576) :
    Calls Trym.prog 9 #[.string s] w fun e w' => e = .returned (.string ⟨(keepL (byl s)).toArray⟩) ∧ Below w.heap.size w w' := by
  have HK : Hid (∀ (wr : World) (k : Nat), Masked w wr s (hid (cnt (byl s))) k → hid (cnt (byl s)) ≤ cnt ((byl s).take k) → ∀ cap, (convert 25 9 (.slice (some ⟨w.heap.size, 0, none⟩) s.size cap)).run Trym.prog wr = .ok (.string ⟨(keepL (byl s)).toArray⟩) wr) := fun wr k h hc cap => h.all hc cap
  go_enter Trym.func9, Trym.ntmps9
  go_wp2
  go_loop [3, 10] (fun n i => ∃ k : Nat, k ≤ s.size ∧ i = .int .i64 k ∧ n = .int .i64 (cnt ((byl s).take k))) (fun _ i => s.size - (intOf i).toNat)
  case atStart => exact ⟨0, Nat.zero_le _, rfl, rfl⟩
  case round =>
    obtain ⟨k, hk, rfl, rfl⟩ := hrel
    have hc := cnt_take_le (byl s) k
    by_cases hlt : k < s.size
    · have HS : Hid (cnt ((byl s).take (k + 1)) = cnt ((byl s).take k) + if dB (s[k].toNat : Int) = true then 1 else 0) := cnt_step s k hlt
      generalize cnt ((byl s).take k) = c at hc HS
      by_cases hd : dB (s[k].toNat : Int) = true
      all_goals
        go_wp2_with (go_at_call 10; refine (digit10 _ _).mono ?_; rintro e w' ⟨rfl, rfl⟩)
        go_round
        case rel => exact ⟨k + 1, by omega, by go_num, num_eq (by have := HS.out; simp [hd] at this; omega)⟩
        case measure => simp [intOf]; omega
    · obtain rfl : k = s.size := by omega
      have et : (byl s).take s.size = byl s := List.take_of_length_le (by rw [byl_length]; exact Nat.le_refl _)
      rw [et] at hc ⊢
      clear et hk hlt
      obtain ⟨T, hT⟩ : ∃ T, T = cnt (byl s) := ⟨_, rfl⟩
      rw [← hT] at hc ⊢
      obtain ⟨H, hH⟩ : ∃ H, H = hid T := ⟨_, rfl⟩
      have hhl := hid_le T
      have HB : Hid (∀ (wr : World) (k : Nat), Masked w wr s H k → H ≤ cnt ((byl s).take k) → ∀ cap, (convert 25 9 (.slice (some ⟨w.heap.size, 0, none⟩) s.size cap)).run Trym.prog wr = .ok (.string ⟨(keepL (byl s)).toArray⟩) wr) := by
        rw [hH, hT]; exact HK
      have HL : Hid (∀ k, cnt ((byl s).take k) < H → k < s.size) := fun k hk => len_of s k (by omega)
      have HH : Hid (H = if T ≤ 4 then T else T - 4) := hH
      rw [← hH] at hhl
      clear hT hH HK
      have hconv := fun w => run_bytes_of_string (P := Trym.prog) w 9 25 5 s Trym.underlying9 Trym.underlying25 Trym.underlying5
      by_cases h4 : (T : Int) ≤ 4
      all_goals
        go_wp2
        go_loopw [5, 7] (fun h i wr => ∃ k r : Nat, k ≤ s.size ∧ i = .int .i64 k ∧ h = .int .i64 r ∧ r ≤ T ∧ r + cnt ((byl s).take k) = H ∧ Masked w wr s H k) (fun _ i _ => s.size - (intOf i).toNat)
        case atStart => exact ⟨0, H, Nat.zero_le _, rfl, num_eq (by have := HH.out; split at this <;> omega), hhl, rfl, Masked.start w s H _⟩
        case round =>
          clear hconv
          obtain ⟨k, r, hk, rfl, rfl, hrT, hr, hM⟩ := hrel
          have HR : Hid (r + cnt ((byl s).take k) = H) := hr
          have HM : Hid (Masked w wr s H k) := hM
          by_cases hpos : 0 < r
          · have hlt : k < s.size := HL.out k (by omega)
            have hcell : wr.cell? ⟨w.heap.size, k, none⟩ = some (.int .u8 (s[k].toNat : Int)) := by
              have := hM.cell k hlt; rw [if_neg (Nat.lt_irrefl k)] at this; exact this
            have hfree := hM.free k hlt
            have HS : Hid (cnt ((byl s).take (k + 1)) = cnt ((byl s).take k) + if dB (s[k].toNat : Int) = true then 1 else 0) := cnt_step s k hlt
            clear hr hM
            by_cases hd : dB (s[k].toNat : Int) = true
            · go_wp2_with (go_at_call 10; refine (digit10 _ _).mono ?_; rintro e w' ⟨rfl, rfl⟩)
              go_roundw
              case rel => exact ⟨k + 1, r - 1, by omega, by go_num, num_eq (by omega), by omega, by have h1 := HS.out; have h2 := HR.out; rw [if_pos hd] at h1; omega, HM.out.star hlt hd (by have := HR.out; omega)⟩
              case measure => simp [intOf]; omega
            · go_wp2_with (go_at_call 10; refine (digit10 _ _).mono ?_; rintro e w' ⟨rfl, rfl⟩)
              go_roundw
              case rel => exact ⟨k + 1, r, by omega, by go_num, rfl, by omega, by have h1 := HS.out; have h2 := HR.out; rw [if_neg hd] at h1; omega, HM.out.pass hlt (by simpa using hd)⟩
              case measure => simp [intOf]; omega
          · have hback := HB.out wr k hM (by omega) (grownCap w s.size 0 5)
            have hbel := hM.below
            clear hr hM
            go_wp2
            go_ret
            exact ⟨rfl, hbel⟩

theorem zkeep_any (s : ByteArray) (w : World) (hs : s.size ≤ 1048576) :
    Calls Trym.prog 6 #[.string s] w fun e w' => e = .returned (.string ⟨(keepL (byl s)).toArray⟩) ∧ Below w.heap.size w w' := by
  go_enter Trym.func6, Trym.ntmps6
  go_wp2_with fail
  refine (keep_any s w hs).mono ?_
  rintro e w' ⟨rfl, hb⟩
  go_wp2
  go_ret
  exact ⟨rfl, hb⟩

def smallB (n : Nat) : Bool := decide (n ≤ 1048576)

theorem bytes5 (s : ByteArray) (w : World) (hs : s.size ≤ maxLen) :
    Calls Trym.prog 5 #[.string s] w fun e w' => e = .returned (.bool (smallB s.size)) ∧ w' = w := by
  unfold maxLen at hs
  by_cases h1 : (1048576 : Int) < s.size
  · go_enter Trym.func5, Trym.ntmps5
    go_wp2
    go_ret
    exact ⟨ret_bool (by unfold smallB; simp; omega), rfl⟩
  · go_enter Trym.func5, Trym.ntmps5
    go_wp2
    go_ret
    exact ⟨ret_bool (by unfold smallB; simp; omega), rfl⟩

theorem bytes8 (s : ByteArray) (w : World) (hs : s.size ≤ maxLen) :
    Calls Trym.prog 8 #[.string s] w fun e w' => e = .returned (.bool (smallB s.size)) ∧ w' = w := by
  unfold maxLen at hs
  by_cases h1 : (1048576 : Int) < s.size
  · go_enter Trym.func8, Trym.ntmps8
    go_wp2
    go_ret
    exact ⟨ret_bool (by unfold smallB; simp; omega), rfl⟩
  · go_enter Trym.func8, Trym.ntmps8
    go_wp2
    go_ret
    exact ⟨ret_bool (by unfold smallB; simp; omega), rfl⟩

end Go.Proofs.Qxb6604070aMods

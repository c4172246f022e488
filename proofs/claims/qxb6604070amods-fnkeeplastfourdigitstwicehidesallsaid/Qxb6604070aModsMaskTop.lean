/-
  THE WALKS of the two laws.
-/
import Derived.Test.Qxb6604070aModsMaskWalks
namespace Go.Proofs.Qxb6604070aMods
open Go.RowKit Plain
set_option linter.unusedVariables false

theorem byl_mk (l : List UInt8) : byl ⟨l.toArray⟩ = l := rfl

theorem zkeep_ex (s : ByteArray) (w : World) (hs : s.size ≤ 1048576) :
    Calls Trym.prog 6 #[.string s] w fun e w' => ∃ g : ByteArray, e = .returned (.string g) ∧ byl g = keepL (byl s) ∧ g.size = s.size ∧ Below w.heap.size w w' :=
  (zkeep_any s w hs).mono (by
    rintro e w' ⟨rfl, hb⟩
    refine ⟨_, rfl, byl_mk _, ?_, hb⟩
    rw [← byl_length, byl_mk, keepL_length, byl_length])

/-- the kept string's byte at a place -/
theorem kept_at {g s : ByteArray} (h : byl g = keepL (byl s)) (hz : g.size = s.size) (j : Nat) (hj : j < s.size) (hj' : j < g.size) :
    g[j] = outC (hid (cnt (byl s))) (cnt ((byl s).take j)) s[j] := by
  have hg := keepL_get (byl s) j (by rw [byl_length]; exact hj)
  have hl : j < (byl g).length := by rw [byl_length]; exact hj'
  rw [← h, List.getElem?_eq_getElem hl] at hg
  exact Option.some.inj hg

theorem kept_plain {g s : ByteArray} (h : byl g = keepL (byl s)) (hz : g.size = s.size) (j : Nat) (hj : j < s.size) (hj' : j < g.size) (hd : dB (s[j].toNat : Int) = false) :
    (g[j].toNat : Int) = (s[j].toNat : Int) := by
  rw [kept_at h hz j hj hj']
  have := plain_get (byl s) j (by rw [byl_length]; exact hj) hd
  rw [byl_get s j hj] at this
  rw [this]

theorem kept_digit {g s : ByteArray} (h : byl g = keepL (byl s)) (hz : g.size = s.size) (j : Nat) (hj : j < s.size) (hj' : j < g.size) (hd : dB (s[j].toNat : Int) = true) :
    (g[j].toNat : Int) = if 4 < cnt (byl s) ∧ cnt ((byl s).drop (j + 1)) < 4 then (s[j].toNat : Int) else 42 := by
  rw [kept_at h hz j hj hj']
  have := model_get (byl s) j (by rw [byl_length]; exact hj) hd
  rw [byl_get s j hj] at this
  rw [this]
  split <;> rfl

/-- hiding twice -/
theorem twice_at {g s : ByteArray} (h : byl g = keepL (keepL (byl s))) (j : Nat) (hj : j < s.size) (hj' : j < g.size) :
    (g[j].toNat : Int) = if dB (s[j].toNat : Int) = true then 42 else (s[j].toNat : Int) := by
  have hg := twice_get (byl s) j (by rw [byl_length]; exact hj)
  have hl : j < (byl g).length := by rw [byl_length]; exact hj'
  rw [← h, List.getElem?_eq_getElem hl] at hg
  have e : g[j]'hj' = if isD (s[j]'hj) = true then 42 else s[j]'hj := Option.some.inj hg
  unfold isD at e
  by_cases hd : dB ((s[j]'hj).toNat : Int) = true
  · rw [if_pos hd] at e ⊢
    rw [e]; rfl
  · rw [if_neg hd] at e ⊢
    rw [e]

set_option maxHeartbeats 400000 in
theorem twice_walk (s : ByteArray) (w : World) (hs : s.size ≤ maxLen) :
    Calls Trym.prog 4 #[.string s] w fun e w' => e = .returned (.bool true) ∧ Below w.heap.size w w' := by
  have HB : Hid (Calls Trym.prog 8 #[.string s] w fun e w' => e = .returned (.bool (smallB s.size)) ∧ w' = w) := bytes8 s w hs
  unfold maxLen at hs
  by_cases hb : smallB s.size = true
  · have hsz : s.size ≤ 1048576 := by simpa [smallB] using hb
    go_enter Trym.func4, Trym.ntmps4
    go_wp2_with fail
    refine HB.out.mono ?_
    rintro e w' ⟨rfl, rfl⟩
    go_wp2_with fail
    refine (zkeep_ex s w' hsz).mono ?_
    rintro e w1 ⟨g, rfl, hg, hgz, hb1⟩
    have HG : Hid (byl g = keepL (byl s)) := hg
    have hgs : g.size ≤ 1048576 := by omega
    have HGZ : Hid (g.size = s.size) := hgz
    clear hg hgz
    go_wp2_with fail
    refine (zkeep_ex g w1 hgs).mono ?_
    rintro e w2 ⟨g2, rfl, hg2, hgz2, hb2⟩
    have HT : Hid (byl g2 = keepL (keepL (byl s))) := by
      have := HG.out; rw [this] at hg2; exact hg2
    have hz2 : g2.size = s.size := hgz2.trans HGZ.out
    have hb12 : Below w'.heap.size w' w2 := hb1.trans (hb2.mono hb1.size)
    clear hg2 hgz2 hb1 hb2 HG HGZ
    go_wp2
    go_loop [4] (fun i => ∃ k : Nat, k ≤ s.size ∧ i = .int .i64 k) (fun i => s.size - (intOf i).toNat)
    case atStart => exact ⟨0, Nat.zero_le _, rfl⟩
    case round =>
      obtain ⟨k, hk, rfl⟩ := hrel
      by_cases hlt : k < s.size
      · have hlt2 : k < g2.size := by omega
        have hv := twice_at HT.out k hlt hlt2
        by_cases hd : dB (s[k].toNat : Int) = true
        · rw [if_pos hd] at hv
          go_wp2_with (go_at_call 7; refine (digit7 _ _).mono ?_; rintro e w3 ⟨rfl, rfl⟩)
          go_round
          case rel => exact ⟨k + 1, by omega, by go_num⟩
          case measure => simp [intOf]; omega
        · rw [if_neg hd] at hv
          go_wp2_with (go_at_call 7; refine (digit7 _ _).mono ?_; rintro e w3 ⟨rfl, rfl⟩)
          go_round
          case rel => exact ⟨k + 1, by omega, by go_num⟩
          case measure => simp [intOf]; omega
      · obtain rfl : k = s.size := by omega
        go_wp2
        go_ret
        exact ⟨rfl, hb12⟩
  · have hbf : smallB s.size = false := by simpa using hb
    go_enter Trym.func4, Trym.ntmps4
    go_wp2_with fail
    refine HB.out.mono ?_
    rintro e w' ⟨rfl, rfl⟩
    go_wp2
    go_ret
    exact ⟨rfl, Below.refl _ _⟩

theorem drop_step (s : ByteArray) (j : Nat) (h : j < s.size) : cnt ((byl s).drop j) = (if dB (s[j].toNat : Int) = true then 1 else 0) + cnt ((byl s).drop (j + 1)) :=
  cnt_drop (byl s) j (by rw [byl_length]; exact h)
theorem drop_le (s : ByteArray) (j : Nat) : cnt ((byl s).drop j) ≤ s.size := by
  have := cnt_le ((byl s).drop j); rw [List.length_drop, byl_length] at this; omega
theorem drop_all (s : ByteArray) : cnt ((byl s).drop s.size) = 0 := by
  rw [List.drop_of_length_le (by rw [byl_length]; exact Nat.le_refl _)]; rfl
theorem take_all (s : ByteArray) : cnt ((byl s).take s.size) = cnt (byl s) := by
  rw [List.take_of_length_le (by rw [byl_length]; exact Nat.le_refl _)]

set_option maxHeartbeats 1000000 in
theorem model_walk (s : ByteArray) (w : World) (hs : s.size ≤ maxLen) :
    Calls Trym.prog 3 #[.string s] w fun e w' => e = .returned (.bool true) ∧ Below w.heap.size w w' := by
  have HB : Hid (Calls Trym.prog 5 #[.string s] w fun e w' => e = .returned (.bool (smallB s.size)) ∧ w' = w) := bytes5 s w hs
  unfold maxLen at hs
  by_cases hb : smallB s.size = true
  · have hsz : s.size ≤ 1048576 := by simpa [smallB] using hb
    go_enter Trym.func3, Trym.ntmps3
    go_wp2_with fail
    refine HB.out.mono ?_
    rintro e w' ⟨rfl, rfl⟩
    go_wp2_with fail
    refine (zkeep_ex s w' hsz).mono ?_
    rintro e w1 ⟨g, rfl, hg, hgz, hb1⟩
    have HG : Hid (byl g = keepL (byl s)) := hg
    clear hg HB
    go_wp2
    go_loop [4, 5] (fun n i => ∃ k : Nat, k ≤ s.size ∧ i = .int .i64 k ∧ n = .int .i64 (cnt ((byl s).take k))) (fun _ i => s.size - (intOf i).toNat)
    case atStart => exact ⟨0, Nat.zero_le _, rfl, rfl⟩
    case round =>
      obtain ⟨k, hk, rfl, rfl⟩ := hrel
      have hc := cnt_take_le (byl s) k
      by_cases hlt : k < s.size
      · have HS : Hid (cnt ((byl s).take (k + 1)) = cnt ((byl s).take k) + if dB (s[k].toNat : Int) = true then 1 else 0) := cnt_step s k hlt
        generalize cnt ((byl s).take k) = c at hc HS
        by_cases hd : dB (s[k].toNat : Int) = true
        all_goals
          go_wp2_with (go_at_call 7; refine (digit7 _ _).mono ?_; rintro e w' ⟨rfl, rfl⟩)
          go_round
          case rel => exact ⟨k + 1, by omega, by go_num, num_eq (by have := HS.out; simp [hd] at this; omega)⟩
          case measure => simp [intOf]; omega
      · obtain rfl : k = s.size := by omega
        rw [take_all] at hc ⊢
        obtain ⟨T, hT⟩ : ∃ T, T = cnt (byl s) := ⟨_, rfl⟩
        rw [← hT] at hc ⊢
        have HT : Hid (T = cnt (byl s)) := hT
        clear hT hk hlt
        go_wp2
        go_loop [6, 7] (fun a i => ∃ m : Nat, m ≤ s.size ∧ i = .int .i64 (m - 1) ∧ a = .int .i64 (cnt ((byl s).drop m))) (fun _ i => (intOf i + 1).toNat)
        case atStart => exact ⟨s.size, Nat.le_refl _, rfl, by rw [drop_all]; rfl⟩
        case round =>
          obtain ⟨m, hm, rfl, rfl⟩ := hrel
          by_cases h0 : m = 0
          · subst h0
            go_wp2
            go_ret
            exact ⟨rfl, hb1⟩
          · obtain ⟨j, rfl⟩ : ∃ j, m = j + 1 := ⟨m - 1, by omega⟩
            have ej : ((j + 1 : Nat) : Int) - 1 = (j : Int) := by omega
            rw [ej]
            clear ej h0
            have hlt : j < s.size := by omega
            have hlt2 : j < g.size := by omega
            have HS : Hid (cnt ((byl s).drop j) = (if dB (s[j].toNat : Int) = true then 1 else 0) + cnt ((byl s).drop (j + 1))) := drop_step s j hlt
            have hca := drop_le s (j + 1)
            by_cases hd : dB (s[j].toNat : Int) = true
            · have hv := kept_digit HG.out hgz j hlt hlt2 hd
              rw [← HT.out] at hv
              generalize cnt ((byl s).drop (j + 1)) = a at hca HS hv
              by_cases hT4 : 4 < T
              · by_cases ha4 : a < 4
                all_goals
                  simp [hT4, ha4] at hv
                  go_wp2_with (go_at_call 7; refine (digit7 _ _).mono ?_; rintro e w' ⟨rfl, rfl⟩)
                  go_round
                  case rel => exact ⟨j, by omega, by go_num, num_eq (by have := HS.out; simp [hd] at this; omega)⟩
                  case measure => simp [intOf]
              · simp [hT4] at hv
                go_wp2_with (go_at_call 7; refine (digit7 _ _).mono ?_; rintro e w' ⟨rfl, rfl⟩)
                go_round
                case rel => exact ⟨j, by omega, by go_num, num_eq (by have := HS.out; simp [hd] at this; omega)⟩
                case measure => simp [intOf]
            · have hv := kept_plain HG.out hgz j hlt hlt2 (by simpa using hd)
              generalize cnt ((byl s).drop (j + 1)) = a at hca HS
              go_wp2_with (go_at_call 7; refine (digit7 _ _).mono ?_; rintro e w' ⟨rfl, rfl⟩)
              go_round
              case rel => exact ⟨j, by omega, by go_num, num_eq (by have := HS.out; simp [hd] at this; omega)⟩
              case measure => simp [intOf]
  · have hbf : smallB s.size = false := by simpa using hb
    go_enter Trym.func3, Trym.ntmps3
    go_wp2_with fail
    refine HB.out.mono ?_
    rintro e w' ⟨rfl, rfl⟩
    go_wp2
    go_ret
    exact ⟨rfl, Below.refl _ _⟩

end Go.Proofs.Qxb6604070aMods

/-
  THE WALKS: zzDelimiterModel behind two dashes.
-/
import Derived.Test.Qxb6604212aModsDelimModel
namespace Go.Proofs.Qxb6604212aMods
open Go.RowKit Plain
set_option linter.unusedVariables false

theorem model_two_end (b : Nat) (t : Bool) (w : World) (h0 : w.cell? ⟨b, 0, none⟩ = some (.int .u8 45)) (h1 : w.cell? ⟨b, 1, none⟩ = some (.int .u8 45)) :
    Calls Trym.prog 6 #[.slice (some ⟨b, 0, none⟩) 2 2, .bool t] w fun e w' => e = .returned (.tuple #[.int .i64 (if t then 2 else -1), .bool t]) ∧ w' = w := by
  cases t
  · go_enter Trym.func6, Trym.ntmps6
    go_wp2_with fail
    refine (padlen_zero _ _ w).mono ?_
    rintro e w' ⟨rfl, rfl⟩
    go_wp2_with fail
    refine (grow_zero _ _ w').mono ?_
    rintro e w'' ⟨rfl, rfl⟩
    go_wp2
    go_ret2
    exact ⟨rfl, rfl⟩
  · go_enter Trym.func6, Trym.ntmps6
    go_wp2_with fail
    refine (padlen_zero _ _ w).mono ?_
    rintro e w' ⟨rfl, rfl⟩
    go_wp2_with fail
    refine (allpad_zero _ _ w').mono ?_
    rintro e w'' ⟨rfl, rfl⟩
    go_wp2
    go_ret2
    exact ⟨rfl, rfl⟩

theorem ans_two_crlf {Z : Nat → Int} {n i : Nat} {t : Bool} (h : i + 1 < n ∧ Z i = 13 ∧ Z (i + 1) = 10) : ansN Z n i true t = 2 ∧ ansF Z n i true t = true := by
  obtain ⟨h1, h2, h3⟩ := h
  constructor
  · unfold ansN; rw [if_neg (by omega), if_neg (by simp [h2]), if_neg (by omega), if_neg (by simp [h3])]; rfl
  · unfold ansF; rw [if_neg (by omega), if_neg (by simp [h2]), if_neg (by omega), if_neg (by simp [h3])]
theorem ans_two_all {Z : Nat → Int} {n i : Nat} (h : i = n) : ansN Z n i true true = 2 ∧ ansF Z n i true true = true :=
  ⟨by unfold ansN; rw [if_pos h]; rfl, by unfold ansF; rw [if_pos h]; rfl⟩
theorem ans_two_grow {Z : Nat → Int} {n i : Nat} {t : Bool} (ht : t = false ∨ ¬ i = n) (g : i = n ∨ (i + 1 = n ∧ Z i = 13)) : ansN Z n i true t = -1 ∧ ansF Z n i true t = false := by
  rcases g with g | ⟨g1, g2⟩
  · rcases ht with rfl | h
    · exact ⟨by unfold ansN; rw [if_pos g]; rfl, by unfold ansF; rw [if_pos g]; rfl⟩
    · exact absurd g h
  · exact ⟨by unfold ansN; rw [if_neg (by omega), if_neg (by simp [g2]), if_pos g1], by unfold ansF; rw [if_neg (by omega), if_neg (by simp [g2]), if_pos g1]⟩

set_option maxHeartbeats 1600000 in
theorem model_two_more (b m : Nat) (Z : Nat → Int) (i : Nat) (t : Bool) (w : World) (hs : m + 3 ≤ 1048576)
    (h0 : w.cell? ⟨b, 0, none⟩ = some (.int .u8 45)) (h1 : w.cell? ⟨b, 1, none⟩ = some (.int .u8 45))
    (hc : ∀ k, k < m + 1 → w.cell? ⟨b, 2 + k, none⟩ = some (.int .u8 (Z (2 + k)))) (hI : IsEnd Z 2 (2 + (m + 1)) i) :
    Calls Trym.prog 6 #[.slice (some ⟨b, 0, none⟩) (m + 3) (m + 3), .bool t] w fun e w' => e = .returned (.tuple #[.int .i64 (ansN Z (2 + (m + 1)) i true t), .bool (ansF Z (2 + (m + 1)) i true t)]) ∧ w' = w := by
  have hi := hI.le
  have hg2 := hI.ge
  have HP : Hid (Calls Trym.prog 8 #[.slice (some ⟨b, 2, none⟩) (m + 1) (m + 1)] w fun e w' => e = .returned (.int .i64 (plV Z 2 (2 + (m + 1)) i)) ∧ w' = w) := padlen_any b 2 (m + 1) (m + 1) Z i w (by omega) hc hI
  have HL : Hid (Calls Trym.prog 9 #[.slice (some ⟨b, 2, none⟩) (m + 1) (m + 1)] w fun e w' => e = .returned (.bool (alB (2 + (m + 1)) i)) ∧ w' = w) := allpad_any b 2 (m + 1) (m + 1) Z i w (by omega) hc hI
  have HG : Hid (Calls Trym.prog 10 #[.slice (some ⟨b, 2, none⟩) (m + 1) (m + 1)] w fun e w' => e = .returned (.bool (grB Z (2 + (m + 1)) i)) ∧ w' = w) := grow_any b 2 m (m + 1) Z i w (Nat.le_refl _) (by omega) hc hI
  clear hc hI
  generalize hN : 2 + (m + 1) = N at *
  clear hN
  by_cases hp : i + 1 < N ∧ Z i = 13 ∧ Z (i + 1) = 10
  · have HA : Hid (ansN Z N i true t = 2 ∧ ansF Z N i true t = true) := ans_two_crlf hp
    have hv : (0 : Int) < plV Z 2 N i := by rw [plV_yes hp]; omega
    clear hp
    go_enter Trym.func6, Trym.ntmps6
    go_wp2_with fail
    refine HP.out.mono ?_
    rintro e w' ⟨rfl, rfl⟩
    go_wp2
    go_ret2
    exact ⟨tup2 HA.out.1.symm HA.out.2.symm, rfl⟩
  · have hv : plV Z 2 N i = 0 := plV_no hp
    by_cases hall : i = N
    · have hal : alB N i = true := alB_yes hall
      have hgb : grB Z N i = true := grB_yes (.inl hall)
      cases t
      · have HA : Hid (ansN Z N i true false = -1 ∧ ansF Z N i true false = false) := ans_two_grow (.inl rfl) (.inl hall)
        clear hp hall
        go_enter Trym.func6, Trym.ntmps6
        go_wp2_with fail
        refine HP.out.mono ?_
        rintro e w' ⟨rfl, rfl⟩
        go_wp2_with fail
        refine HG.out.mono ?_
        rintro e w'' ⟨rfl, rfl⟩
        go_wp2
        go_ret2
        exact ⟨tup2 HA.out.1.symm HA.out.2.symm, rfl⟩
      · have HA : Hid (ansN Z N i true true = 2 ∧ ansF Z N i true true = true) := ans_two_all hall
        clear hp hall
        go_enter Trym.func6, Trym.ntmps6
        go_wp2_with fail
        refine HP.out.mono ?_
        rintro e w' ⟨rfl, rfl⟩
        go_wp2_with fail
        refine HL.out.mono ?_
        rintro e w'' ⟨rfl, rfl⟩
        go_wp2
        go_ret2
        exact ⟨tup2 HA.out.1.symm HA.out.2.symm, rfl⟩
    · have hal : alB N i = false := alB_no hall
      by_cases hg : i = N ∨ (i + 1 = N ∧ Z i = 13)
      · have HA : Hid (ansN Z N i true t = -1 ∧ ansF Z N i true t = false) := ans_two_grow (.inr hall) hg
        have hgb : grB Z N i = true := grB_yes hg
        clear hp hall hg
        cases t
        · go_enter Trym.func6, Trym.ntmps6
          go_wp2_with fail
          refine HP.out.mono ?_
          rintro e w' ⟨rfl, rfl⟩
          go_wp2_with fail
          refine HG.out.mono ?_
          rintro e w'' ⟨rfl, rfl⟩
          go_wp2
          go_ret2
          exact ⟨tup2 HA.out.1.symm HA.out.2.symm, rfl⟩
        · go_enter Trym.func6, Trym.ntmps6
          go_wp2_with fail
          refine HP.out.mono ?_
          rintro e w' ⟨rfl, rfl⟩
          go_wp2_with fail
          refine HL.out.mono ?_
          rintro e w'' ⟨rfl, rfl⟩
          go_wp2_with fail
          refine HG.out.mono ?_
          rintro e w3 ⟨rfl, rfl⟩
          go_wp2
          go_ret2
          exact ⟨tup2 HA.out.1.symm HA.out.2.symm, rfl⟩
      · have HA : Hid (ansN Z N i true t = 0 ∧ ansF Z N i true t = false) := ans_none hi hp hg
        have hgb : grB Z N i = false := grB_no hg
        clear hp hall hg
        cases t
        · go_enter Trym.func6, Trym.ntmps6
          go_wp2_with fail
          refine HP.out.mono ?_
          rintro e w' ⟨rfl, rfl⟩
          go_wp2_with fail
          refine HG.out.mono ?_
          rintro e w'' ⟨rfl, rfl⟩
          go_wp2
          go_ret2
          exact ⟨tup2 HA.out.1.symm HA.out.2.symm, rfl⟩
        · go_enter Trym.func6, Trym.ntmps6
          go_wp2_with fail
          refine HP.out.mono ?_
          rintro e w' ⟨rfl, rfl⟩
          go_wp2_with fail
          refine HL.out.mono ?_
          rintro e w'' ⟨rfl, rfl⟩
          go_wp2_with fail
          refine HG.out.mono ?_
          rintro e w3 ⟨rfl, rfl⟩
          go_wp2
          go_ret2
          exact ⟨tup2 HA.out.1.symm HA.out.2.symm, rfl⟩

end Go.Proofs.Qxb6604212aMods

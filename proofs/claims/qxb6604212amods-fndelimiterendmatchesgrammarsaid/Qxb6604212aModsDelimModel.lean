/-
  THE WALKS: zzDelimiterModel.
-/
import Derived.Test.Qxb6604212aModsDelimEnd
namespace Go.Proofs.Qxb6604212aMods
open Go.RowKit Plain
set_option linter.unusedVariables false

theorem model_zero (a : Option Addr) (cap : Nat) (t : Bool) (w : World) : Calls Trym.prog 6 #[.slice a 0 cap, .bool t] w fun e w' => e = .returned (.tuple #[.int .i64 (-1), .bool false]) ∧ w' = w := by
  go_enter Trym.func6, Trym.ntmps6
  go_wp2_with fail
  refine (padlen_zero a cap w).mono ?_
  rintro e w' ⟨rfl, rfl⟩
  go_wp2_with fail
  refine (grow_zero a cap w').mono ?_
  rintro e w'' ⟨rfl, rfl⟩
  go_wp2
  go_ret2
  exact ⟨rfl, rfl⟩

theorem model_one (b cap : Nat) (t : Bool) (w : World) (h0 : w.cell? ⟨b, 0, none⟩ = some (.int .u8 45)) :
    Calls Trym.prog 6 #[.slice (some ⟨b, 0, none⟩) 1 cap, .bool t] w fun e w' => e = .returned (.tuple #[.int .i64 (-1), .bool false]) ∧ w' = w := by
  go_enter Trym.func6, Trym.ntmps6
  go_wp2
  go_ret2
  exact ⟨rfl, rfl⟩

theorem model_dash (b n cap : Nat) (c : Int) (t : Bool) (w : World) (hn : 2 ≤ n) (hs : n ≤ 1048576) (h0 : w.cell? ⟨b, 0, none⟩ = some (.int .u8 45)) (h1 : w.cell? ⟨b, 1, none⟩ = some (.int .u8 c)) (hc : (c == 45) = false) :
    Calls Trym.prog 6 #[.slice (some ⟨b, 0, none⟩) n cap, .bool t] w fun e w' => e = .returned (.tuple #[.int .i64 0, .bool false]) ∧ w' = w := by
  have e1 : ((n : Int) == 1) = false := by simp only [beq_eq_false_iff_ne, ne_eq]; omega
  go_enter Trym.func6, Trym.ntmps6
  go_wp2
  go_ret2
  exact ⟨rfl, rfl⟩

/-- the two plain answers are one -/
theorem ans_plain_crlf {Z : Nat → Int} {n i : Nat} {t : Bool} (h : i + 1 < n ∧ Z i = 13 ∧ Z (i + 1) = 10) : ansN Z n i false t = plV Z 0 n i ∧ ansF Z n i false t = false := by
  obtain ⟨h1, h2, h3⟩ := h
  constructor
  · unfold ansN; rw [if_neg (by omega), if_neg (by simp [h2]), if_neg (by omega), if_neg (by simp [h3]), plV_yes ⟨h1, h2, h3⟩]; simp
  · unfold ansF; rw [if_neg (by omega), if_neg (by simp [h2]), if_neg (by omega), if_neg (by simp [h3])]
theorem ans_plain_grow {Z : Nat → Int} {n i : Nat} {t : Bool} (h : ¬ (i + 1 < n ∧ Z i = 13 ∧ Z (i + 1) = 10)) (g : i = n ∨ (i + 1 = n ∧ Z i = 13)) : ansN Z n i false t = -1 ∧ ansF Z n i false t = false := by
  rcases g with g | ⟨g1, g2⟩
  · exact ⟨by unfold ansN; rw [if_pos g]; rfl, by unfold ansF; rw [if_pos g]; rfl⟩
  · exact ⟨by unfold ansN; rw [if_neg (by omega), if_neg (by simp [g2]), if_pos g1], by unfold ansF; rw [if_neg (by omega), if_neg (by simp [g2]), if_pos g1]⟩
theorem ans_none {Z : Nat → Int} {n i : Nat} {two t : Bool} (hi : i ≤ n) (h : ¬ (i + 1 < n ∧ Z i = 13 ∧ Z (i + 1) = 10)) (g : ¬ (i = n ∨ (i + 1 = n ∧ Z i = 13))) : ansN Z n i two t = 0 ∧ ansF Z n i two t = false := by
  have g1 : ¬ i = n := fun e => g (.inl e)
  by_cases h13 : Z i = 13
  · have g2 : ¬ i + 1 = n := fun e => g (.inr ⟨e, h13⟩)
    have h10 : ¬ Z (i + 1) = 10 := fun e => h ⟨by omega, h13, e⟩
    exact ⟨by unfold ansN; rw [if_neg g1, if_neg (by simp [h13]), if_neg g2, if_pos h10], by unfold ansF; rw [if_neg g1, if_neg (by simp [h13]), if_neg g2, if_pos h10]⟩
  · exact ⟨by unfold ansN; rw [if_neg g1, if_pos h13], by unfold ansF; rw [if_neg g1, if_pos h13]⟩

set_option maxHeartbeats 1600000 in
theorem model_plain (b m : Nat) (Z : Nat → Int) (i : Nat) (t : Bool) (w : World) (hz : (Z 0 == 45) = false) (hs : m + 1 ≤ 1048576)
    (hc : ∀ k, k < m + 1 → w.cell? ⟨b, k, none⟩ = some (.int .u8 (Z k))) (hI : IsEnd Z 0 (m + 1) i) :
    Calls Trym.prog 6 #[.slice (some ⟨b, 0, none⟩) (m + 1) (m + 1), .bool t] w fun e w' => e = .returned (.tuple #[.int .i64 (ansN Z (m + 1) i false t), .bool (ansF Z (m + 1) i false t)]) ∧ w' = w := by
  have hi := hI.le
  have h0 := hc 0 (by omega)
  have HP := padlen_any b 0 (m + 1) (m + 1) Z i w hs (by simpa using hc) (by simpa using hI)
  have HG := grow_any b 0 m (m + 1) Z i w (Nat.le_refl _) hs (by simpa using hc) (by simpa using hI)
  rw [Nat.zero_add] at HP HG
  have HP' : Hid (Calls Trym.prog 8 #[.slice (some ⟨b, 0, none⟩) (m + 1) (m + 1)] w fun e w' => e = .returned (.int .i64 (plV Z 0 (m + 1) i)) ∧ w' = w) := HP
  have HG' : Hid (Calls Trym.prog 10 #[.slice (some ⟨b, 0, none⟩) (m + 1) (m + 1)] w fun e w' => e = .returned (.bool (grB Z (m + 1) i)) ∧ w' = w) := HG
  clear HP HG hc hI
  by_cases hp : i + 1 < m + 1 ∧ Z i = 13 ∧ Z (i + 1) = 10
  · have ha := ans_plain_crlf (t := t) hp
    have hv : (0 : Int) < plV Z 0 (m + 1) i := by rw [plV_yes hp]; omega
    have HA : Hid (ansN Z (m + 1) i false t = plV Z 0 (m + 1) i ∧ ansF Z (m + 1) i false t = false) := ha
    clear ha hp
    by_cases h2 : m = 0
    · subst h2
      go_enter Trym.func6, Trym.ntmps6
      go_wp2_with fail
      refine HP'.out.mono ?_
      rintro e w' ⟨rfl, rfl⟩
      go_wp2
      go_ret2
      exact ⟨tup2 HA.out.1.symm HA.out.2.symm, rfl⟩
    · go_enter Trym.func6, Trym.ntmps6
      go_wp2_with fail
      refine HP'.out.mono ?_
      rintro e w' ⟨rfl, rfl⟩
      go_wp2
      go_ret2
      exact ⟨tup2 HA.out.1.symm HA.out.2.symm, rfl⟩
  · have hv : plV Z 0 (m + 1) i = 0 := plV_no hp
    by_cases hg : i = m + 1 ∨ (i + 1 = m + 1 ∧ Z i = 13)
    · have HA : Hid (ansN Z (m + 1) i false t = -1 ∧ ansF Z (m + 1) i false t = false) := ans_plain_grow hp hg
      have hgb : grB Z (m + 1) i = true := grB_yes hg
      clear hp hg
      by_cases h2 : m = 0
      · subst h2
        go_enter Trym.func6, Trym.ntmps6
        go_wp2_with fail
        refine HP'.out.mono ?_
        rintro e w' ⟨rfl, rfl⟩
        go_wp2_with fail
        refine HG'.out.mono ?_
        rintro e w'' ⟨rfl, rfl⟩
        go_wp2
        go_ret2
        exact ⟨tup2 HA.out.1.symm HA.out.2.symm, rfl⟩
      · go_enter Trym.func6, Trym.ntmps6
        go_wp2_with fail
        refine HP'.out.mono ?_
        rintro e w' ⟨rfl, rfl⟩
        go_wp2_with fail
        refine HG'.out.mono ?_
        rintro e w'' ⟨rfl, rfl⟩
        go_wp2
        go_ret2
        exact ⟨tup2 HA.out.1.symm HA.out.2.symm, rfl⟩
    · have HA : Hid (ansN Z (m + 1) i false t = 0 ∧ ansF Z (m + 1) i false t = false) := ans_none hi hp hg
      have hgb : grB Z (m + 1) i = false := grB_no hg
      clear hp hg
      by_cases h2 : m = 0
      · subst h2
        go_enter Trym.func6, Trym.ntmps6
        go_wp2_with fail
        refine HP'.out.mono ?_
        rintro e w' ⟨rfl, rfl⟩
        go_wp2_with fail
        refine HG'.out.mono ?_
        rintro e w'' ⟨rfl, rfl⟩
        go_wp2
        go_ret2
        exact ⟨tup2 HA.out.1.symm HA.out.2.symm, rfl⟩
      · go_enter Trym.func6, Trym.ntmps6
        go_wp2_with fail
        refine HP'.out.mono ?_
        rintro e w' ⟨rfl, rfl⟩
        go_wp2_with fail
        refine HG'.out.mono ?_
        rintro e w'' ⟨rfl, rfl⟩
        go_wp2
        go_ret2
        exact ⟨tup2 HA.out.1.symm HA.out.2.symm, rfl⟩

end Go.Proofs.Qxb6604212aMods

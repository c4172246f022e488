/-
  THE WALKS: zzCouldGrowToCRLF, zzBytes..
-/
import Derived.Test.Qxb6604212aModsDelimWalks
namespace Go.Proofs.Qxb6604212aMods
open Go.RowKit Plain
set_option linter.unusedVariables false

theorem grow_zero (a : Option Addr) (cap : Nat) (w : World) : Calls Trym.prog 10 #[.slice a 0 cap] w fun e w' => e = .returned (.bool true) ∧ w' = w := by
  go_enter Trym.func10, Trym.ntmps10
  go_wp2_with fail
  refine (allpad_zero a cap w).mono ?_
  rintro e w' ⟨rfl, rfl⟩
  go_wp2
  go_ret
  exact ⟨rfl, rfl⟩

set_option maxHeartbeats 400000 in
theorem grow_any (b o m cap : Nat) (Z : Nat → Int) (i : Nat) (w : World) (hlen : m + 1 ≤ cap) (hcap : cap ≤ 1048576)
    (hc : ∀ k, k < m + 1 → w.cell? ⟨b, o + k, none⟩ = some (.int .u8 (Z (o + k)))) (hI : IsEnd Z o (o + (m + 1)) i) :
    Calls Trym.prog 10 #[.slice (some ⟨b, o, none⟩) (m + 1) cap] w fun e w' => e = .returned (.bool (grB Z (o + (m + 1)) i)) ∧ w' = w := by
  have H1 : Hid (Calls Trym.prog 9 #[.slice (some ⟨b, o, none⟩) (m + 1) cap] w fun e w' => e = .returned (.bool (alB (o + (m + 1)) i)) ∧ w' = w) := allpad_any b o (m + 1) cap Z i w (by omega) hc hI
  obtain ⟨k, hk, hki⟩ := IsEnd.shorter (n := o + m) hI (by omega)
  have H2 : Hid (Calls Trym.prog 9 #[.slice (some ⟨b, o, none⟩) m cap] w fun e w' => e = .returned (.bool (alB (o + m) k)) ∧ w' = w) := allpad_any b o m cap Z k w (by omega) (fun j hj => hc j (by omega)) hk
  have hcm := hc m (by omega)
  have hle := hI.le
  have HKI : Hid (k = o + m ↔ (i = o + m ∨ i = o + m + 1)) := hki
  clear hc hI hk hki
  by_cases hall : i = o + (m + 1)
  · have ha : alB (o + (m + 1)) i = true := alB_yes hall
    have HA : Hid (i = o + (m + 1)) := hall
    clear hall
    go_enter Trym.func10, Trym.ntmps10
    go_wp2_with fail
    refine H1.out.mono ?_
    rintro e w' ⟨rfl, rfl⟩
    go_wp2
    go_ret
    exact ⟨ret_bool (grB_yes (.inl HA.out)).symm, rfl⟩
  · have ha : alB (o + (m + 1)) i = false := alB_no hall
    by_cases h13 : Z (o + m) = 13
    · have hcm' : w.cell? ⟨b, o + m, none⟩ = some (.int .u8 13) := by rw [← h13]; exact hcm
      have H13 : Hid (Z (o + m) = 13) := h13
      clear hcm h13
      have hr : Hid (alB (o + m) k = grB Z (o + (m + 1)) i) := by
        by_cases e : i = o + m
        · rw [show alB (o + m) k = true from alB_yes (HKI.out.2 (.inl e)), show grB Z (o + (m + 1)) i = true from grB_yes (.inr ⟨by omega, by rw [e]; exact H13.out⟩)]; rfl
        · rw [show alB (o + m) k = false from alB_no (fun h => by rcases HKI.out.1 h with h | h <;> omega), show grB Z (o + (m + 1)) i = false from grB_no (by omega)]; rfl
      clear hall
      go_enter Trym.func10, Trym.ntmps10
      go_wp2_with fail
      refine H1.out.mono ?_
      rintro e w' ⟨rfl, rfl⟩
      go_wp2_with fail
      refine H2.out.mono ?_
      rintro e w' ⟨rfl, rfl⟩
      go_wp2
      go_ret
      exact ⟨ret_bool hr.out, rfl⟩
    · have e13 : (Z (o + m) == 13) = false := by simpa using h13
      have hr : Hid (grB Z (o + (m + 1)) i = false) := grB_no (by
        rintro (h | ⟨h1, h2⟩)
        · exact hall h
        · exact h13 (by rw [show o + m = i from by omega]; exact h2))
      clear h13 hall
      go_enter Trym.func10, Trym.ntmps10
      go_wp2_with fail
      refine H1.out.mono ?_
      rintro e w' ⟨rfl, rfl⟩
      go_wp2
      go_ret
      exact ⟨ret_bool hr.out.symm, rfl⟩

def smallB (n : Nat) : Bool := decide (n ≤ 1048576)

theorem bytes_any (a : Option Addr) (n cap : Nat) (t : Bool) (w : World) (hs : n ≤ maxLen) :
    Calls Trym.prog 4 #[.slice a n cap, .bool t] w fun e w' => e = .returned (.bool (smallB n)) ∧ w' = w := by
  unfold maxLen at hs
  by_cases h1 : (1048576 : Int) < n
  · go_enter Trym.func4, Trym.ntmps4
    go_wp2
    go_ret
    exact ⟨ret_bool (by unfold smallB; simp; omega), rfl⟩
  · go_enter Trym.func4, Trym.ntmps4
    go_wp2
    go_ret
    exact ⟨ret_bool (by unfold smallB; simp; omega), rfl⟩

end Go.Proofs.Qxb6604212aMods

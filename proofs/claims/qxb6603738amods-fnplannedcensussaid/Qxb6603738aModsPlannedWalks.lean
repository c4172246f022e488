/-
  THE WALKS: planned, ZZPlanned, gcdWith5005.
-/
import Derived.Test.Qxb6603738aModsRows
import Derived.Test.Qxb6603738aModsPlannedLaw
import Derived.WalkKit
import Derived.WalkSpells
import Derived.WalkLawsBesides
import Derived.Deep.QuietTactic
import Derived.BigQuiet
import Derived.OpenShut
namespace Go.Proofs.Qxb6603738aMods
open Go.RowKit Plain
set_option linter.unusedVariables false

theorem ret_int {k : IntKind} {a b : Int} (h : a = b) : Ending.returned (.int k a) = .returned (.int k b) := by rw [h]

/-- the fate in the walk's own spelling -/
theorem fate_t (i : Int) : fate i = if (i.tmod 7 == 0) = true then 1 else if (i.tmod 5 == 0) = true then 2 else if (i.tmod 11 == 0) = true then 3 else if (i.tmod 13 == 0) = true then 4 else 0 := by
  unfold fate
  simp only [beq_iff_eq, tmod_zero_iff]

set_option maxHeartbeats 400000 in
theorem planned_any (i : Int) (w0 : (Lit.int .i64 i).wf = true) (w : World) :
    Calls Trym.prog 7 #[.int .i64 i] w fun e w' => e = .returned (.int .i64 (fate i)) ∧ w' = w := by
  go_enter Trym.func7, Trym.ntmps7
  go_wp2
  all_goals
    go_ret
    exact ⟨ret_int (by rw [fate_t]; simp only [*]; rfl), rfl⟩

theorem zplanned_any (i : Int) (w0 : (Lit.int .i64 i).wf = true) (w : World) :
    Calls Trym.prog 5 #[.int .i64 i] w fun e w' => e = .returned (.int .i64 (fate i)) ∧ w' = w := by
  go_enter Trym.func5, Trym.ntmps5
  go_wp2_with fail
  refine (planned_any i w0 w).mono ?_
  rintro e w' ⟨rfl, rfl⟩
  go_wp2
  go_ret
  exact ⟨rfl, rfl⟩

theorem gcd_start (u : Nat) : Nat.gcd 5005 (u % 5005) = Nat.gcd 5005 u := by
  rw [Nat.gcd_comm 5005 (u % 5005), ← Nat.gcd_rec]
theorem gcd_step (a b g : Nat) (h : Nat.gcd a b = g) : Nat.gcd b (a % b) = g := by
  rw [← h, Nat.gcd_comm b (a % b), ← Nat.gcd_rec, Nat.gcd_comm]

set_option maxHeartbeats 400000 in
theorem gcd_neg (i : Int) (h0 : -9223372036854775808 ≤ i) (h1 : i < 0) (w : World) :
    Calls Trym.prog 6 #[.int .i64 i] w fun e w' => e = .returned (.int .u64 (Nat.gcd 5005 i.natAbs)) ∧ ∃ q, w' = w.drewN q := by
  go_enter Trym.func6, Trym.ntmps6
  go_wp2
  go_loopw [4, 5] (fun sa sb wr => ∃ a b q : Nat, sa = .int .u64 a ∧ sb = .int .u64 b ∧ Nat.gcd a b = Nat.gcd 5005 i.natAbs ∧ a ≤ 5005 ∧ b < 5005 ∧ wr = w.drewN q) (fun _ b _ => (intOf b).toNat)
  case atStart => exact ⟨5005, i.natAbs % 5005, 0, rfl, by congr 1; omega, gcd_start _, Nat.le_refl _, Nat.mod_lt _ (by decide), rfl⟩
  case round =>
    obtain ⟨a, b, q, rfl, rfl, hg, ha, hb, rfl⟩ := hrel
    have HG : Hid (Nat.gcd a b = Nat.gcd 5005 i.natAbs) := hg
    clear hg
    by_cases hz : b = 0
    · subst hz
      go_wp2
      go_ret
      exact ⟨ret_int (by have := HG.out; simp at this; omega), q, rfl⟩
    · have hz' : (0 : Int) < b := by omega
      go_wp2
      go_quiet (fail)
      go_wp2
      go_roundw
      case rel => exact ⟨b, a % b, q + nq, rfl, by congr 1, gcd_step _ _ _ HG.out, by omega, Nat.lt_trans (Nat.mod_lt _ (by omega)) hb, World.drewN_drewN _ _ _⟩
      case measure => simp [intOf]; have := Nat.mod_lt a (show 0 < b by omega); omega

set_option maxHeartbeats 400000 in
theorem gcd_pos (i : Int) (h0 : 0 ≤ i) (h1 : i ≤ 9223372036854775807) (w : World) :
    Calls Trym.prog 6 #[.int .i64 i] w fun e w' => e = .returned (.int .u64 (Nat.gcd 5005 i.natAbs)) ∧ ∃ q, w' = w.drewN q := by
  go_enter Trym.func6, Trym.ntmps6
  go_wp2
  go_loopw [4, 5] (fun sa sb wr => ∃ a b q : Nat, sa = .int .u64 a ∧ sb = .int .u64 b ∧ Nat.gcd a b = Nat.gcd 5005 i.natAbs ∧ a ≤ 5005 ∧ b < 5005 ∧ wr = w.drewN q) (fun _ b _ => (intOf b).toNat)
  case atStart => exact ⟨5005, i.natAbs % 5005, 0, rfl, by congr 1; omega, gcd_start _, Nat.le_refl _, Nat.mod_lt _ (by decide), rfl⟩
  case round =>
    obtain ⟨a, b, q, rfl, rfl, hg, ha, hb, rfl⟩ := hrel
    have HG : Hid (Nat.gcd a b = Nat.gcd 5005 i.natAbs) := hg
    clear hg
    by_cases hz : b = 0
    · subst hz
      go_wp2
      go_ret
      exact ⟨ret_int (by have := HG.out; simp at this; omega), q, rfl⟩
    · have hz' : (0 : Int) < b := by omega
      go_wp2
      go_quiet (fail)
      go_wp2
      go_roundw
      case rel => exact ⟨b, a % b, q + nq, rfl, by congr 1, gcd_step _ _ _ HG.out, by omega, Nat.lt_trans (Nat.mod_lt _ (by omega)) hb, World.drewN_drewN _ _ _⟩
      case measure => simp [intOf]; have := Nat.mod_lt a (show 0 < b by omega); omega

theorem wf_bounds {i : Int} (w0 : (Lit.int .i64 i).wf = true) : -9223372036854775808 ≤ i ∧ i ≤ 9223372036854775807 := by
  exact bounds_i64 w0

theorem gcd_any (i : Int) (w0 : (Lit.int .i64 i).wf = true) (w : World) :
    Calls Trym.prog 6 #[.int .i64 i] w fun e w' => e = .returned (.int .u64 (Nat.gcd 5005 i.natAbs)) ∧ ∃ q, w' = w.drewN q := by
  have hb := wf_bounds w0
  by_cases h : i < 0
  · exact gcd_neg i hb.1 h w
  · exact gcd_pos i (by omega) hb.2 w

end Go.Proofs.Qxb6603738aMods

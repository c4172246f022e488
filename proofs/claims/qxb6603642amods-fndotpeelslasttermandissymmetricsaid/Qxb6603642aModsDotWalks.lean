/-
  THE WALKS of FnDotPeelsLastTermAndIsSymmetric: dot, the tests.
-/
import Derived.Test.Qxb6603642aModsDotFloat
namespace Go.Proofs.Qxb6603642aMods
open Go.RowKit Plain
set_option linter.unusedVariables false

set_option maxHeartbeats 400000 in
theorem dot_zero (xa xb : Option Addr) (ca cb : Nat) (w : World) :
    Calls Trym.prog 13 #[.slice xa 0 ca, .slice xb 0 cb] w fun e w' => e = .returned (.float .f64 0) ∧ w' = w := by
  go_enter Trym.func13, Trym.ntmps13
  go_wp2
  refine wp_loop_rounds 1 ?_
  rw [rounds_succ]
  go_wp2
  go_ret
  exact ⟨rfl, rfl⟩

set_option maxHeartbeats 400000 in
theorem dot_some (ba bb n ca m cb : Nat) (A B : List Nat) (w : World) (hn : n ≤ 65536) (hca : n ≤ ca) (hnm : n ≤ m) (hcb : m ≤ cb) (hcm : cb ≤ 65536)
    (hA : ∀ i, i < n → w.cell? ⟨ba, i, none⟩ = some (.float .f64 (A.getD i 0)))
    (hB : ∀ i, i < n → w.cell? ⟨bb, i, none⟩ = some (.float .f64 (B.getD i 0))) :
    Calls Trym.prog 13 #[.slice (some ⟨ba, 0, none⟩) n ca, .slice (some ⟨bb, 0, none⟩) m cb] w fun e w' => ∃ r q, e = .returned (.float .f64 r) ∧ cl r = dotK A B n ∧ w' = w.drewN q := by
  have ha := run_add Trym.prog
  have hm := run_mul Trym.prog
  go_enter Trym.func13, Trym.ntmps13
  go_wp2
  go_loopw [5, 14] (fun s i wr => ∃ k r q : Nat, k ≤ n ∧ i = .int .i64 k ∧ s = .float .f64 r ∧ cl r = dotK A B k ∧ wr = w.drewN q) (fun _ i _ => n - (intOf i).toNat)
  case atStart => exact ⟨0, 0, 0, Nat.zero_le _, rfl, rfl, cl_zero, rfl⟩
  case round =>
    obtain ⟨k, r, q, hk, rfl, rfl, hr, rfl⟩ := hrel
    by_cases hlt : k < n
    · have hAk := hA k hlt
      have hBk := hB k hlt
      have HR : Hid (cl r = dotK A B k) := hr
      clear hr hA hB
      go_wp2
      go_roundw
      case rel => exact ⟨k + 1, _, _, by omega, by go_num, rfl, by rw [cl_addV, cl_mulV, HR.out, dotK]; simp, rfl⟩
      case measure => simp [intOf]; omega
    · have : k = n := by omega
      subst this
      go_wp2
      go_ret
      exact ⟨r, q, rfl, hr, rfl⟩

theorem zdot_zero (xa xb : Option Addr) (ca cb : Nat) (w : World) :
    Calls Trym.prog 10 #[.slice xa 0 ca, .slice xb 0 cb] w fun e w' => e = .returned (.float .f64 0) ∧ w' = w := by
  go_enter Trym.func10, Trym.ntmps10
  go_wp2_with fail
  refine (dot_zero xa xb ca cb w).mono ?_
  rintro e w' ⟨rfl, rfl⟩
  go_wp2
  go_ret
  exact ⟨rfl, rfl⟩

theorem zdot_some (ba bb n ca m cb : Nat) (A B : List Nat) (w : World) (hn : n ≤ 65536) (hca : n ≤ ca) (hnm : n ≤ m) (hcb : m ≤ cb) (hcm : cb ≤ 65536)
    (hA : ∀ i, i < n → w.cell? ⟨ba, i, none⟩ = some (.float .f64 (A.getD i 0)))
    (hB : ∀ i, i < n → w.cell? ⟨bb, i, none⟩ = some (.float .f64 (B.getD i 0))) :
    Calls Trym.prog 10 #[.slice (some ⟨ba, 0, none⟩) n ca, .slice (some ⟨bb, 0, none⟩) m cb] w fun e w' => ∃ r q, e = .returned (.float .f64 r) ∧ cl r = dotK A B n ∧ w' = w.drewN q := by
  go_enter Trym.func10, Trym.ntmps10
  go_wp2_with fail
  refine (dot_some ba bb n ca m cb A B w hn hca hnm hcb hcm hA hB).mono ?_
  rintro e w' ⟨r, q, rfl, hr, rfl⟩
  go_wp2
  go_ret
  exact ⟨r, q, rfl, hr, rfl⟩

/-! ### sameFloatClass: two words of one kind -/
theorem same_nan (x y : Nat) (hx : nanB x = true) (hy : nanB y = true) (w : World) :
    Calls Trym.prog 11 #[.float .f64 x, .float .f64 y] w fun e w' => e = .returned (.bool true) ∧ w' = w := by
  have e1 : FloatKind.f64.format.order x x = none := order_nan_left hx
  have e2 : FloatKind.f64.format.order y y = none := order_nan_left hy
  go_enter Trym.func11, Trym.ntmps11
  go_wp2
  go_ret
  exact ⟨rfl, rfl⟩

theorem same_num (x : Nat) (hx : nanB x = false) (w : World) :
    Calls Trym.prog 11 #[.float .f64 x, .float .f64 x] w fun e w' => e = .returned (.bool true) ∧ w' = w := by
  have e1 : FloatKind.f64.format.order x x = some .eq := order_self hx
  by_cases hz : FloatKind.f64.format.order x 0 = some .eq
  · obtain ⟨r, hr⟩ : ∃ r, floatBits .quo .f64 4607182418800017408 x = some r := one_div hx
    have hq := fun w => run_float_arith (P := Trym.prog) w .quo 33 .f64 4607182418800017408 x r hr
    go_enter Trym.func11, Trym.ntmps11
    go_wp2
    go_ret
    exact ⟨rfl, rfl⟩
  · go_enter Trym.func11, Trym.ntmps11
    go_wp2
    go_ret
    exact ⟨rfl, rfl⟩

theorem same_any (x y : Nat) (w : World) (h : cl x = cl y) :
    Calls Trym.prog 11 #[.float .f64 x, .float .f64 y] w fun e w' => e = .returned (.bool true) ∧ w' = w := by
  rcases cl_cases h with ⟨hx, hy⟩ | ⟨rfl, hx⟩
  · exact same_nan x y hx hy w
  · exact same_num x hx w

end Go.Proofs.Qxb6603642aMods

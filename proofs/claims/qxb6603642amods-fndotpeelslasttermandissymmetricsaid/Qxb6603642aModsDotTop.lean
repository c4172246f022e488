/-
  THE WALK of FnDotPeelsLastTermAndIsSymmetric itself.
-/
import Derived.Test.Qxb6603642aModsDotWalks
import Derived.Test.Qxb6603642aModsDotClone
import Derived.Deep.RegionWith
namespace Go.Proofs.Qxb6603642aMods
open Go.RowKit Plain
set_option linter.unusedVariables false

set_option maxRecDepth 100000 in
set_option maxHeartbeats 400000 in
theorem law_pos (ba oa bb ob n ca cb : Nat) (A B : List Nat) (w : World) (h0 : 0 < n) (hn : n ≤ 65536) (hba : ba < w.heap.size) (hbb : bb < w.heap.size)
    (hA : ∀ i, i < n → w.cell? ⟨ba, oa + i, none⟩ = some (.float .f64 (A.getD i 0)))
    (hB : ∀ i, i < n → w.cell? ⟨bb, ob + i, none⟩ = some (.float .f64 (B.getD i 0))) :
    Calls Trym.prog 4 #[.slice (some ⟨ba, oa, none⟩) n ca, .slice (some ⟨bb, ob, none⟩) n cb] w fun e w' => e = .returned (.bool true) ∧ Below w.heap.size w w' := by
  have hby : bytesB n n = true := by unfold bytesB; simp; omega
  have ha := run_add Trym.prog
  have hm := run_mul Trym.prog
  go_enter Trym.func4, Trym.ntmps4
  go_wp2_with fail
  refine (bytes_any _ _ _ _ _ _ _ (by unfold maxLen; omega) (by unfold maxLen; omega)).mono ?_
  rintro e w' ⟨rfl, rfl⟩
  go_wp2_with fail
  refine (clone_some ba oa n ca A w' hn hba hA).mono ?_
  rintro e w1 ⟨rfl, hc1, hb1, hs1⟩
  have hB1 : ∀ i, i < n → w1.cell? ⟨bb, ob + i, none⟩ = some (.float .f64 (B.getD i 0)) := fun i hi => (hb1.cell (by exact hbb)).trans (hB i hi)
  go_wp2_with fail
  refine (clone_some bb ob n cb B w1 hn (by omega) hB1).mono ?_
  rintro e w2 ⟨rfl, hc2, hb2, hs2⟩
  have hc1' : ∀ i, i < n → w2.cell? ⟨w'.heap.size, i, none⟩ = some (.float .f64 (A.getD i 0)) := fun i hi => (hb2.cell (by exact hs1)).trans (hc1 i hi)
  clear hc1 hB1 hA hB
  go_wp2_with fail
  refine (zdot_some w'.heap.size w1.heap.size n n n n A B w2 hn (Nat.le_refl _) (Nat.le_refl _) (Nat.le_refl _) hn hc1' hc2).mono ?_
  rintro e w3 ⟨r, q, rfl, hr, rfl⟩
  go_wp2_with fail
  obtain ⟨k, rfl⟩ : ∃ k, n = k + 1 := ⟨n - 1, by omega⟩
  have e5 : ((k + 1 : Nat) : Int) = (k : Int) + 1 := by omega
  have e6 : ((k : Int) + 1 - 1) = (k : Int) := by omega
  rw [e5]
  clear e5 e6
  have HR : Hid (cl r = dotK A B (k + 1)) := hr
  clear hr hby ha hm
  have hle : (k : Int) ≤ (k : Int) + 1 := by omega
  have hwk : IntKind.i64.wrap (k : Int) = (k : Int) := IntWalk.i64_in _ (by omega)
  have hb12 : Below w'.heap.size w' w2 := hb1.trans (hb2.mono (by omega))
  clear hb1 hb2
  go_region_with (go_at_call 10; go_must (refine (zdot_some w'.heap.size w1.heap.size k (k + 1) k (k + 1) A B _ (by omega) (by omega) (Nat.le_refl _) (by omega) hn (by exact fun i hi => hc1' i (by omega)) (by exact fun i hi => hc2 i (by omega))).mono ?_; rintro e w4 ⟨r2, q2, rfl, hr2, rfl⟩))
  have hA1 := hc1' k (by omega)
  have hB1 := hc2 k (by omega)
  have hlt : (k : Int) < (k : Int) + 1 := by omega
  have HR2 : Hid (cl r2 = dotK A B k) := hr2
  clear hr2
  have ha := run_add Trym.prog
  have hm := run_mul Trym.prog
  go_wp2_with fail
  go_region
  all_goals
    clear ha hm hA1 hB1
    go_wp2_with fail
    refine (same_any _ _ _ (by rw [cl_addV, cl_mulV, HR.out, HR2.out, dotK]; simp)).mono ?_
    rintro e w5 ⟨rfl, rfl⟩
    go_wp2_with fail
    refine (zdot_some w1.heap.size w'.heap.size (k + 1) (k + 1) (k + 1) (k + 1) B A _ hn (Nat.le_refl _) (Nat.le_refl _) (Nat.le_refl _) hn (by exact hc2) (by exact hc1')).mono ?_
    rintro e w6 ⟨r3, q3, rfl, hr3, rfl⟩
    have HR3 : Hid (cl r3 = dotK B A (k + 1)) := hr3
    clear hr3
    go_wp2_with fail
    refine (same_any _ _ _ (by rw [HR3.out, HR.out, dotK_comm])).mono ?_
    rintro e w7 ⟨rfl, rfl⟩
    go_wp2
    go_ret
    exact ⟨rfl, below_drewN hb12 _⟩

end Go.Proofs.Qxb6603642aMods

/-
  THE PROOF OF 'Rows.FnPlannedCensusSaid': the frame was written by program (proof-skeleton.mjs); the walk is filled in.
-/
import Derived.Test.Qxb6603738aModsRows
import Derived.Test.Qxb6603738aModsPlannedWalks
import Derived.WalkKit
import Derived.ProofKit
import Derived.OpenShut
import Derived.ShutString
namespace Go.Proofs.Qxb6603738aMods.fnPlannedCensus
open Go.ChangeShapes Go.WideShapes Go.ChangeAt Go.RowKit Plain
open Go.ChangeMaps (open_string shut_string)
set_option linter.unusedVariables false      -- a walk need not use every 'w<i>' (that an integer argument fits its kind)

theorem own : ownKnob Trym.prog.godebug = none := by kernel_rfl

theorem num_eq {a b : Int} (h : a = b) : Value.int .i64 a = .int .i64 b := by rw [h]
theorem wf_mk {i : Int} (h0 : -9223372036854775808 ≤ i) (h1 : i ≤ 9223372036854775807) : (Lit.int .i64 i).wf = true := by
  simp [Lit.wf, IntKind.min, IntKind.max, IntKind.signed, IntKind.bits]
  omega

/-! ### STEP 1: THE WALK: the Go text returns true. 'Grown w w'': the world has at most new blocks (Derived/RowKit3.lean). Part the cases AHEAD of 'go_enter' where a test parts the walk; take each callee by a contract of your own. -/
set_option maxRecDepth 100000 in
set_option maxHeartbeats 1000000 in
theorem walk (a0 : Int) (w0 : (Lit.int .i64 a0).wf = true) (w : World) :
    Calls Trym.prog 4 #[.int .i64 a0] w fun e w' => e = .returned (.bool true) ∧ Grown w w' := by
  have hb := wf_bounds w0
  by_cases hs : 9223372036854770803 < a0
  · go_enter Trym.func4, Trym.ntmps4
    go_wp2
    go_ret
    exact ⟨rfl, Grown.refl _⟩
  · have HZ : Hid (∀ k : Nat, k < 5005 → ∀ w, Calls Trym.prog 5 #[.int .i64 (a0 + k)] w fun e w' => e = .returned (.int .i64 (fate (a0 + k))) ∧ w' = w) :=
      fun k hk w => zplanned_any (a0 + k) (wf_mk (by omega) (by omega)) w
    have HC : Hid (∀ c k, cn c a0 k ≤ k) := fun c k => cn_le c a0 k
    go_enter Trym.func4, Trym.ntmps4
    go_wp2
    go_loop [3, 4, 5, 6, 7, 8, 9] (fun c0 c1 c2 c3 c4 c5 j => ∃ k : Nat, k ≤ 5005 ∧ j = .int .i64 k ∧ c0 = .int .i64 (cn 0 a0 k) ∧ c1 = .int .i64 (cn 1 a0 k) ∧ c2 = .int .i64 (cn 2 a0 k) ∧ c3 = .int .i64 (cn 3 a0 k) ∧ c4 = .int .i64 (cn 4 a0 k) ∧ c5 = .int .i64 0) (fun _ _ _ _ _ _ j => 5005 - (intOf j).toNat)
    case atStart => exact ⟨0, Nat.zero_le _, rfl, rfl, rfl, rfl, rfl, rfl, rfl⟩
    case round =>
      obtain ⟨k, hk, rfl, rfl, rfl, rfl, rfl, rfl, rfl⟩ := hrel
      by_cases hlt : k < 5005
      · have b0 := HC.out 0 k
        have b1 := HC.out 1 k
        have b2 := HC.out 2 k
        have b3 := HC.out 3 k
        have b4 := HC.out 4 k
        have s0 := cn_succ 0 a0 k
        have s1 := cn_succ 1 a0 k
        have s2 := cn_succ 2 a0 k
        have s3 := cn_succ 3 a0 k
        have s4 := cn_succ 4 a0 k
        have HK : Hid (∀ w, Calls Trym.prog 5 #[.int .i64 (a0 + k)] w fun e w' => e = .returned (.int .i64 (fate (a0 + k))) ∧ w' = w) := HZ.out k hlt
        have hfr := fate_range (a0 + k)
        generalize fate (a0 + k) = f at HK s0 s1 s2 s3 s4 hfr
        have HS : Hid (cn 0 a0 (k + 1) = cn 0 a0 k + (if f = 0 then 1 else 0) ∧ cn 1 a0 (k + 1) = cn 1 a0 k + (if f = 1 then 1 else 0) ∧ cn 2 a0 (k + 1) = cn 2 a0 k + (if f = 2 then 1 else 0) ∧ cn 3 a0 (k + 1) = cn 3 a0 k + (if f = 3 then 1 else 0) ∧ cn 4 a0 (k + 1) = cn 4 a0 k + (if f = 4 then 1 else 0)) := ⟨s0, s1, s2, s3, s4⟩
        clear s0 s1 s2 s3 s4
        rcases hfr with rfl | rfl | rfl | rfl | rfl
        all_goals
          go_wp2_with fail
          refine (HK.out w).mono ?_
          rintro e w' ⟨rfl, rfl⟩
          go_wp2
          go_round
          case rel =>
            obtain ⟨s0, s1, s2, s3, s4⟩ := HS.out
            simp at s0 s1 s2 s3 s4
            exact ⟨k + 1, by omega, by go_num, num_eq (by omega), num_eq (by omega), num_eq (by omega), num_eq (by omega), num_eq (by omega), rfl⟩
          case measure => simp [intOf]; omega
      · obtain rfl : k = 5005 := by omega
        obtain ⟨e0, e1, e2, e3, e4⟩ := census a0
        rw [e0, e1, e2, e3, e4]
        go_wp2
        go_ret
        exact ⟨rfl, Grown.refl _⟩

/-! ### THE ROW's STEP: WRITTEN OUT: LEAVE IT -/
set_option maxRecDepth 100000 in
theorem lifted (os : Os) (started : os.Started) (H : Type) (enc : TypeId × Value → H) :
    ReturnsInHanded {} Trym.checked os 4 .any (Rows.fnPlannedCensusSpec.pre6 enc Trym.prog Trym.f4 Rows.fnPlannedCensusRow.domain false) (Rows.fnPlannedCensusSpec.post enc Trym.prog Trym.f4 false true false false) := by
  refine returnsInHanded_of_change (C := Trym.checked) own started (by kernel_rfl) Trym.func4
    (ChangeSpec.witness6 (enc := enc) (C := Trym.checked) false ⟨#[], #[.int .i64 0], []⟩ 8 (by kernel_rfl) (by kernel_rfl) (by kernel_rfl) (by kernel_rfl)) ?_
  intro W base args ds gs before hval0 hW hcnd _
  have hval : ∀ (j : Nat) t v, Trym.f4.params[j]? = some t → args[j]? = some v → Value.okWide Trym.prog W .any base t v := hval0
  have hW' := hW
  obtain ⟨p, q, hA0, hV, rfl, hfz, hnd⟩ := hW
  have hA : DataW.TrodAll enc Trym.prog W 0 (fun _ => true) true Trym.f4.params.toList args.toList ds p := hA0
  rw [Trym.params4] at hA hval
  obtain ⟨v0, vs0, d0, ds0, p0, q0, hargs, rfl, rfl, h0, r0⟩ := trodAll_cons hA
  obtain ⟨rfl, rfl, rfl⟩ := trodAll_nil r0
  obtain rfl : args = #[v0] := by cases args; simp_all
  obtain ⟨rfl, rfl⟩ := trodVars_none hV
  obtain ⟨a0, rfl, rfl, rfl, w0⟩ := open_int Trym.underlying3 (hval 0 3 v0 rfl rfl) h0
  clear hA0 hval0
  simp only [List.append_nil] at hW'
  refine (walk a0 w0 W).mono fun e W' ⟨he, hg⟩ => ?_
  subst he
  exact ⟨_, rfl, post_of_same (pa := []) (pv := []) hW' (fun _ _ _ => (trodAll_cons_mk (shut_bool Trym.underlying4 _) trodAll_mk0)) (fun sp _ => (trodAll_cons_mk (shut_int Trym.underlying3 w0) trodAll_mk0)) (fun _ _ => rfl) rfl
    (hg.frame _) hg.2.1 (ok_one (by kernel_rfl) rfl (okWide_bool_mk Trym.underlying4 _))⟩

theorem over : Rows.fnPlannedCensusRow.holds Trym.pinned (OpenSpec.ofChange Rows.fnPlannedCensusSpec) :=
  OpenClaim.holds_of_wide 4 Trym.f4 rfl rfl rfl rfl rfl rfl rfl ⟨rfl, rfl, rfl, rfl, rfl⟩ rfl rfl rfl rfl rfl (by kernel_rfl) Trym.func4 (by kernel_rfl)
    (of_decide_eq_true (by kernel_rfl)) (by unfold Func.isWrapper; first | (rw [if_pos (by decide +kernel)]; kernel_rfl) | (rw [if_neg (by decide +kernel)]; exact ⟨rfl, rfl⟩))
    (fun os started H enc _ => lifted os started H enc)

/-- ████ THE STATEMENT ████ -/
theorem proved : Rows.FnPlannedCensusSaid :=
  over
end Go.Proofs.Qxb6603738aMods.fnPlannedCensus

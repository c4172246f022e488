/-
  THE PROOF OF 'Rows.FnDotPeelsLastTermAndIsSymmetricSaid': the frame is the guide's (proof-skeleton.mjs, for slices of integers), turned by hand to slices of floats; the walk is in Qxb6603642aModsDotRest.lean.
-/
import Derived.Test.Qxb6603642aModsRows
import Derived.Test.Qxb6603642aModsDotRest
import Derived.WalkKit
import Derived.ProofKit
import Derived.OpenShut
import Derived.ChangeOld
import Derived.Below
import Derived.Deep.Slices
namespace Go.Proofs.Qxb6603642aMods.fnDotPeelsLastTermAndIsSymmetric
open Go.ChangeShapes Go.WideShapes Go.ChangeAt Go.RowKit
set_option linter.unusedVariables false

theorem own : ownKnob Trym.prog.godebug = none := by kernel_rfl
theorem laidOut : laidOutB Trym.prog = true := by kernel_rfl

theorem trod_float {H : Type} {enc : TypeId × Value → H} {P : Program} {w : World} {base : Nat} {spare : Nat → Bool} {held : Bool} {fuel : Nat} {t : TypeId} {k : FloatKind} {v : Value} {x : DataW H × List MemPlace}
    (ht : P.underlying t = some (.float k)) (h : DataW.trod enc P w base spare held fuel t [v] = some x) : ∃ n, v = .float k n := by
  cases fuel with
  | zero => simp [DataW.trod] at h
  | succ n =>
    unfold DataW.trod at h
    rw [ht] at h
    split at h <;> simp_all

/-- a slice of floats, opened -/
theorem open_floats {H : Type} {enc : TypeId × Value → H} {P : Program} {w : World} {base : Nat} {fuel : Nat} {t e : TypeId} {a : Option Addr} {len cap : Nat} {x : DataW H × List MemPlace}
    (ht : P.underlying t = some (.slice e)) (he : P.underlying e = some (.float .f64)) (hc : P.cellsOf e = 1)
    (h : DataW.trod enc P w base (fun _ => true) true fuel t [.slice a len cap] = some x) : ∃ zs, IsRow w a len cap zs := by
  rcases Go.Deep.open_slice1 ht hc h with ⟨hcs, _⟩ | ⟨ad, l, c, m, n, V, D, Pl, hcs, _, hl, hm, hmm, _, hx⟩
  · simp at hcs
    obtain ⟨rfl, rfl, rfl⟩ := hcs
    exact ⟨[], .inl ⟨rfl, rfl, rfl, rfl⟩⟩
  · simp at hcs
    obtain ⟨rfl, rfl, rfl⟩ := hcs
    simp at hmm
    subst hmm
    have hf : ∀ i, i < m → ∃ b, V i = .float .f64 b := fun i hi => trod_float he (hx i hi).2
    refine ⟨(List.range m).map (fun i => match V i with | .float _ b => b | _ => 0), .inr ⟨ad, rfl, hl, hm, by simp, fun i hi => ?_⟩⟩
    have hi' : i < m := by simpa using hi
    obtain ⟨b, hb⟩ := hf i hi'
    rw [(hx i hi').1, hb]
    simp [List.getD, hi', hb]

set_option maxRecDepth 100000 in
theorem lifted (os : Os) (started : os.Started) (H : Type) (enc : TypeId × Value → H) :
    ReturnsInHanded {} Trym.checked os 4 .any (Rows.fnDotPeelsLastTermAndIsSymmetricSpec.pre6 enc Trym.prog Trym.f4 Rows.fnDotPeelsLastTermAndIsSymmetricRow.domain false) (Rows.fnDotPeelsLastTermAndIsSymmetricSpec.post enc Trym.prog Trym.f4 false true false false) := by
  refine returnsInHanded_of_change (C := Trym.checked) own started (by kernel_rfl) Trym.func4
    (ChangeSpec.witness6 (enc := enc) (C := Trym.checked) false ⟨#[], #[.slice none 0 0, .slice none 0 0], []⟩ 8 (by kernel_rfl) (by kernel_rfl) (by kernel_rfl) (by kernel_rfl)) ?_
  intro W base args ds gs before hval0 hW hcnd _
  have hval : ∀ (j : Nat) t v, Trym.f4.params[j]? = some t → args[j]? = some v → Value.okWide Trym.prog W .any base t v := hval0
  have hW' := hW
  obtain ⟨p, q, hA0, hV, rfl, hfz, hnd⟩ := hW
  have hA : DataW.TrodAll enc Trym.prog W 0 (fun _ => true) true Trym.f4.params.toList args.toList ds p := hA0
  rw [Trym.params4] at hA hval
  obtain ⟨v0, vs0, d0, ds0, p0, q0, hargs, rfl, rfl, h0, r0⟩ := trodAll_cons hA
  obtain ⟨v1, vs1, d1, ds1, p1, q1, rfl, rfl, rfl, h1, r1⟩ := trodAll_cons r0
  obtain ⟨rfl, rfl, rfl⟩ := trodAll_nil r1
  obtain rfl : args = #[v0, v1] := by cases args; simp_all
  obtain ⟨rfl, rfl⟩ := trodVars_none hV
  obtain ⟨a0, len0, cap0, rfl⟩ := okWide_slice Trym.underlying30 (hval 0 30 v0 rfl rfl)
  obtain ⟨a1, len1, cap1, rfl⟩ := okWide_slice Trym.underlying30 (hval 1 30 v1 rfl rfl)
  have k0 := h0
  have k1 := h1
  have lt0 : ∀ x ∈ p0, x.block < W.heap.size := by obtain ⟨m, hm⟩ := k0; exact DataW.trod_lt m _ _ _ hm
  have lt1 : ∀ x ∈ p1, x.block < W.heap.size := by obtain ⟨m, hm⟩ := k1; exact DataW.trod_lt m _ _ _ hm
  obtain ⟨z0, w0⟩ : ∃ zs, IsRow W a0 len0 cap0 zs := by
    obtain ⟨fuel, hf⟩ := h0
    exact open_floats Trym.underlying30 Trym.underlying33 (by kernel_rfl) (by simpa [Value.cells] using hf)
  obtain ⟨z1, w1⟩ : ∃ zs, IsRow W a1 len1 cap1 zs := by
    obtain ⟨fuel, hf⟩ := h1
    exact open_floats Trym.underlying30 Trym.underlying33 (by kernel_rfl) (by simpa [Value.cells] using hf)
  clear hA0 hval0
  refine (walk a0 len0 cap0 z0 a1 len1 cap1 z1 W w0 w1).mono fun e W' ⟨he, bel⟩ => ?_
  subst he
  exact ⟨_, rfl, _, _, _, [], _, [], hW', trodAll_mk1 (shut_bool Trym.underlying4 _), (trodAll_cons_mk (Below.trod laidOut (by kernel_rfl) (of_decide_eq_true (by kernel_rfl)) k0 bel lt0) (trodAll_cons_mk (Below.trod laidOut (by kernel_rfl) (of_decide_eq_true (by kernel_rfl)) k1 bel lt1) trodAll_mk0)), rfl, bel.frame _, fun h => by cases h⟩

theorem over : Rows.fnDotPeelsLastTermAndIsSymmetricRow.holds Trym.pinned (OpenSpec.ofChange Rows.fnDotPeelsLastTermAndIsSymmetricSpec) :=
  OpenClaim.holds_of_wide 4 Trym.f4 rfl rfl rfl rfl rfl rfl rfl ⟨rfl, rfl, rfl, rfl, rfl⟩ rfl rfl rfl rfl rfl (by kernel_rfl) Trym.func4 (by kernel_rfl)
    (of_decide_eq_true (by kernel_rfl)) (by unfold Func.isWrapper; first | (rw [if_pos (by decide +kernel)]; kernel_rfl) | (rw [if_neg (by decide +kernel)]; exact ⟨rfl, rfl⟩))
    (fun os started H enc _ => lifted os started H enc)

/-- THE STATEMENT -/
theorem proved : Rows.FnDotPeelsLastTermAndIsSymmetricSaid := over
end Go.Proofs.Qxb6603642aMods.fnDotPeelsLastTermAndIsSymmetric

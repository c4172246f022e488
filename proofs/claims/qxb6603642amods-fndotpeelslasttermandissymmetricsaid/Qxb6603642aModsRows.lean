/-
  No cell of these rows narrows 'for every input' (looked for: loops, veiled, ifaces, maps, wideKeys, modest, calm, conditions, laid).
  DERIVED. THE GIVEN ROWS OF THIS SEAT. 2 by the template 'for every input the law returns true; each argument reads behind the call as it read before'; 0 by the template 'total and deterministic' (their statements: Qxb6603642aModsTotals.lean).
  GIVEN WITH THE SEED: the statements are not yours to turn. If you find one false, say at which input.
  Laid BY PROGRAM, IN A SANDBOX (cutbox-rows.mjs): the forced cells as the released guide's own fill.sh prints them over the translation bfe0d4db16586a32… (all of the seat's roots in one cut). By AI agents, Wed Nov 11 2026. No macro, syntax, notation, axiom, sorry.
-/
import Derived.Test.Qxb6603642aModsChecked
import GoSem.Claim
import GoSem.ClaimJoined
import GoSem.ClaimMapViews
import Derived.JoinedTies
import Derived.KernelRfl
namespace Go.Proofs.Qxb6603642aMods
/- THE CELL 'sum', in the pinned program and in every row, IS THE sha256 OF THE DUMP (.gsa) THAT Qxb6603642aModsProg.lean LOADS. Nothing in Lean hashes anything: it is a label: what it is worth is what the hold of that sum in a sandbox is worth. -/
noncomputable def Trym.pinned : Pinned := { name := "qxb6603642amods", sum := "bfe0d4db16586a32f8a296023f1fb24e379eea11956441746c1bdc10d0fc993c", checked := Trym.checked }
namespace Rows
def none {H : Type} : Left H := { results := [], args := [] }

/-- 'zzlaws_root_b1.FnHeadNumbersWriteThroughSetsEachFieldOnce': WHATEVER THE INPUT: true; the input reads as it did. -/
def fnHeadNumbersWriteThroughSetsEachFieldOnceSpec : ChangeSpec := { name := "fnHeadNumbersWriteThroughSetsEachFieldOnce", fn := fun _ => fun
  | [d1, d2] => { results := [.lit (.bool true)], args := [d1, d2] }
  | _ => none }
def fnHeadNumbersWriteThroughSetsEachFieldOnceRow : OpenClaim := { program := "qxb6603642amods", sum := "bfe0d4db16586a32f8a296023f1fb24e379eea11956441746c1bdc10d0fc993c", func := "example.com/bounded-retriever/bounded-retriever/zzlaws_root_b1.FnHeadNumbersWriteThroughSetsEachFieldOnce", spec := "fnHeadNumbersWriteThroughSetsEachFieldOnce", make := .lifted ["publicsums"], apart := false }
def FnHeadNumbersWriteThroughSetsEachFieldOnceSaid : Prop := fnHeadNumbersWriteThroughSetsEachFieldOnceRow.holds Trym.pinned (OpenSpec.ofChange fnHeadNumbersWriteThroughSetsEachFieldOnceSpec)

/-- ITS FALSE NEIGHBOUR: 'it returns false'. Refute it at one input. -/
def fnHeadNumbersWriteThroughSetsEachFieldOnceWrong : ChangeSpec := { name := "fnHeadNumbersWriteThroughSetsEachFieldOnce", fn := fun _ => fun
  | [d1, d2] => { results := [.lit (.bool false)], args := [d1, d2] }
  | _ => none }
def FnHeadNumbersWriteThroughSetsEachFieldOnceWrongFalsely : Prop := fnHeadNumbersWriteThroughSetsEachFieldOnceRow.holds Trym.pinned (OpenSpec.ofChange fnHeadNumbersWriteThroughSetsEachFieldOnceWrong)

/-- 'zzlaws_root_b1.FnDotPeelsLastTermAndIsSymmetric': WHATEVER THE INPUT: true; the input reads as it did. -/
def fnDotPeelsLastTermAndIsSymmetricSpec : ChangeSpec := { name := "fnDotPeelsLastTermAndIsSymmetric", fn := fun _ => fun
  | [d1, d2] => { results := [.lit (.bool true)], args := [d1, d2] }
  | _ => none }
def fnDotPeelsLastTermAndIsSymmetricRow : OpenClaim := { program := "qxb6603642amods", sum := "bfe0d4db16586a32f8a296023f1fb24e379eea11956441746c1bdc10d0fc993c", func := "example.com/bounded-retriever/bounded-retriever/zzlaws_root_b1.FnDotPeelsLastTermAndIsSymmetric", spec := "fnDotPeelsLastTermAndIsSymmetric", make := .lifted ["publicsums"], apart := false }
def FnDotPeelsLastTermAndIsSymmetricSaid : Prop := fnDotPeelsLastTermAndIsSymmetricRow.holds Trym.pinned (OpenSpec.ofChange fnDotPeelsLastTermAndIsSymmetricSpec)

/-- ITS FALSE NEIGHBOUR: 'it returns false'. Refute it at one input. -/
def fnDotPeelsLastTermAndIsSymmetricWrong : ChangeSpec := { name := "fnDotPeelsLastTermAndIsSymmetric", fn := fun _ => fun
  | [d1, d2] => { results := [.lit (.bool false)], args := [d1, d2] }
  | _ => none }
def FnDotPeelsLastTermAndIsSymmetricWrongFalsely : Prop := fnDotPeelsLastTermAndIsSymmetricRow.holds Trym.pinned (OpenSpec.ofChange fnDotPeelsLastTermAndIsSymmetricWrong)

end Rows
end Go.Proofs.Qxb6603642aMods

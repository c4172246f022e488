/-
  No cell of these rows narrows 'for every input' (looked for: loops, veiled, ifaces, maps, wideKeys, modest, calm, conditions, laid).
  DERIVED. THE GIVEN ROWS OF THIS SEAT. 2 by the template 'for every input the law returns true; each argument reads behind the call as it read before'; 0 by the template 'total and deterministic' (their statements: Qxb6603738aModsTotals.lean).
  GIVEN WITH THE SEED: the statements are not yours to turn. If you find one false, say at which input.
  Laid BY PROGRAM, IN A SANDBOX (cutbox-rows.mjs): the forced cells as the released guide's own fill.sh prints them over the translation c2ea8db5d1549659… (all of the seat's roots in one cut). By AI agents, Wed Nov 11 2026. No macro, syntax, notation, axiom, sorry.
-/
import Derived.Test.Qxb6603738aModsChecked
import GoSem.Claim
import GoSem.ClaimJoined
import GoSem.ClaimMapViews
import Derived.JoinedTies
import Derived.KernelRfl
namespace Go.Proofs.Qxb6603738aMods
/- THE CELL 'sum', in the pinned program and in every row, IS THE sha256 OF THE DUMP (.gsa) THAT Qxb6603738aModsProg.lean LOADS. Nothing in Lean hashes anything: it is a label: what it is worth is what the hold of that sum in a sandbox is worth. -/
noncomputable def Trym.pinned : Pinned := { name := "qxb6603738amods", sum := "c2ea8db5d1549659001a2ba86beceafd7862cdda3443783f24179913110ea415", checked := Trym.checked }
namespace Rows
def none {H : Type} : Left H := { results := [], args := [] }

/-- 'zzlaws_internal_dbtest_b1.FnPlannedCommittedIffCoprime': WHATEVER THE INPUT: true; the input reads as it did. -/
def fnPlannedCommittedIffCoprimeSpec : ChangeSpec := { name := "fnPlannedCommittedIffCoprime", fn := fun _ => fun
  | [d] => { results := [.lit (.bool true)], args := [d] }
  | _ => none }
def fnPlannedCommittedIffCoprimeRow : OpenClaim := { program := "qxb6603738amods", sum := "c2ea8db5d1549659001a2ba86beceafd7862cdda3443783f24179913110ea415", func := "example.com/sansepolcro/sansepolcro/zzlaws_internal_dbtest_b1.FnPlannedCommittedIffCoprime", spec := "fnPlannedCommittedIffCoprime", make := .lifted ["publicsums"], apart := false }
def FnPlannedCommittedIffCoprimeSaid : Prop := fnPlannedCommittedIffCoprimeRow.holds Trym.pinned (OpenSpec.ofChange fnPlannedCommittedIffCoprimeSpec)

/-- ITS FALSE NEIGHBOUR: 'it returns false'. Refute it at one input. -/
def fnPlannedCommittedIffCoprimeWrong : ChangeSpec := { name := "fnPlannedCommittedIffCoprime", fn := fun _ => fun
  | [d] => { results := [.lit (.bool false)], args := [d] }
  | _ => none }
def FnPlannedCommittedIffCoprimeWrongFalsely : Prop := fnPlannedCommittedIffCoprimeRow.holds Trym.pinned (OpenSpec.ofChange fnPlannedCommittedIffCoprimeWrong)

/-- 'zzlaws_internal_dbtest_b1.FnPlannedCensus': WHATEVER THE INPUT: true; the input reads as it did. -/
def fnPlannedCensusSpec : ChangeSpec := { name := "fnPlannedCensus", fn := fun _ => fun
  | [d] => { results := [.lit (.bool true)], args := [d] }
  | _ => none }
def fnPlannedCensusRow : OpenClaim := { program := "qxb6603738amods", sum := "c2ea8db5d1549659001a2ba86beceafd7862cdda3443783f24179913110ea415", func := "example.com/sansepolcro/sansepolcro/zzlaws_internal_dbtest_b1.FnPlannedCensus", spec := "fnPlannedCensus", make := .lifted ["publicsums"], apart := false }
def FnPlannedCensusSaid : Prop := fnPlannedCensusRow.holds Trym.pinned (OpenSpec.ofChange fnPlannedCensusSpec)

/-- ITS FALSE NEIGHBOUR: 'it returns false'. Refute it at one input. -/
def fnPlannedCensusWrong : ChangeSpec := { name := "fnPlannedCensus", fn := fun _ => fun
  | [d] => { results := [.lit (.bool false)], args := [d] }
  | _ => none }
def FnPlannedCensusWrongFalsely : Prop := fnPlannedCensusRow.holds Trym.pinned (OpenSpec.ofChange fnPlannedCensusWrong)

end Rows
end Go.Proofs.Qxb6603738aMods

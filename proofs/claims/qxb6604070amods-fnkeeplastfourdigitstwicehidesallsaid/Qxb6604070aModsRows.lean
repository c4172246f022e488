/-
  No cell of these rows narrows 'for every input' (looked for: loops, veiled, ifaces, maps, wideKeys, modest, calm, conditions, laid).
  DERIVED. THE GIVEN ROWS OF THIS SEAT. 2 by the template 'for every input the law returns true; each argument reads behind the call as it read before'; 0 by the template 'total and deterministic' (their statements: Qxb6604070aModsTotals.lean).
  GIVEN WITH THE SEED: the statements are not yours to turn. If you find one false, say at which input.
  Laid BY PROGRAM, IN A SANDBOX (cutbox-rows.mjs): the forced cells as the released guide's own fill.sh prints them over the translation a8450f9d396846f7… (all of the seat's roots in one cut). By AI agents, Wed Nov 11 2026. No macro, syntax, notation, axiom, sorry.
-/
import Derived.Test.Qxb6604070aModsChecked
import GoSem.Claim
import GoSem.ClaimJoined
import GoSem.ClaimMapViews
import Derived.JoinedTies
import Derived.KernelRfl
namespace Go.Proofs.Qxb6604070aMods
/- THE CELL 'sum', in the pinned program and in every row, IS THE sha256 OF THE DUMP (.gsa) THAT Qxb6604070aModsProg.lean LOADS. Nothing in Lean hashes anything: it is a label: what it is worth is what the hold of that sum in a sandbox is worth. -/
noncomputable def Trym.pinned : Pinned := { name := "qxb6604070amods", sum := "a8450f9d396846f7c9eaf5ceacb3316596b4aaf78682a3e9bd266c7079506a63", checked := Trym.checked }
namespace Rows
def none {H : Type} : Left H := { results := [], args := [] }

/-- 'zzlaws_root_b1.FnKeepLastFourDigitsMatchesModel': WHATEVER THE INPUT: true; the input reads as it did. -/
def fnKeepLastFourDigitsMatchesModelSpec : ChangeSpec := { name := "fnKeepLastFourDigitsMatchesModel", fn := fun _ => fun
  | [d] => { results := [.lit (.bool true)], args := [d] }
  | _ => none }
def fnKeepLastFourDigitsMatchesModelRow : OpenClaim := { program := "qxb6604070amods", sum := "a8450f9d396846f7c9eaf5ceacb3316596b4aaf78682a3e9bd266c7079506a63", func := "example.com/field-warden/field-warden/zzlaws_root_b1.FnKeepLastFourDigitsMatchesModel", spec := "fnKeepLastFourDigitsMatchesModel", make := .lifted ["publicsums"], apart := false }
def FnKeepLastFourDigitsMatchesModelSaid : Prop := fnKeepLastFourDigitsMatchesModelRow.holds Trym.pinned (OpenSpec.ofChange fnKeepLastFourDigitsMatchesModelSpec)

/-- ITS FALSE NEIGHBOUR: 'it returns false'. Refute it at one input. -/
def fnKeepLastFourDigitsMatchesModelWrong : ChangeSpec := { name := "fnKeepLastFourDigitsMatchesModel", fn := fun _ => fun
  | [d] => { results := [.lit (.bool false)], args := [d] }
  | _ => none }
def FnKeepLastFourDigitsMatchesModelWrongFalsely : Prop := fnKeepLastFourDigitsMatchesModelRow.holds Trym.pinned (OpenSpec.ofChange fnKeepLastFourDigitsMatchesModelWrong)

/-- 'zzlaws_root_b1.FnKeepLastFourDigitsTwiceHidesAll': WHATEVER THE INPUT: true; the input reads as it did. -/
def fnKeepLastFourDigitsTwiceHidesAllSpec : ChangeSpec := { name := "fnKeepLastFourDigitsTwiceHidesAll", fn := fun _ => fun
  | [d] => { results := [.lit (.bool true)], args := [d] }
  | _ => none }
def fnKeepLastFourDigitsTwiceHidesAllRow : OpenClaim := { program := "qxb6604070amods", sum := "a8450f9d396846f7c9eaf5ceacb3316596b4aaf78682a3e9bd266c7079506a63", func := "example.com/field-warden/field-warden/zzlaws_root_b1.FnKeepLastFourDigitsTwiceHidesAll", spec := "fnKeepLastFourDigitsTwiceHidesAll", make := .lifted ["publicsums"], apart := false }
def FnKeepLastFourDigitsTwiceHidesAllSaid : Prop := fnKeepLastFourDigitsTwiceHidesAllRow.holds Trym.pinned (OpenSpec.ofChange fnKeepLastFourDigitsTwiceHidesAllSpec)

/-- ITS FALSE NEIGHBOUR: 'it returns false'. Refute it at one input. -/
def fnKeepLastFourDigitsTwiceHidesAllWrong : ChangeSpec := { name := "fnKeepLastFourDigitsTwiceHidesAll", fn := fun _ => fun
  | [d] => { results := [.lit (.bool false)], args := [d] }
  | _ => none }
def FnKeepLastFourDigitsTwiceHidesAllWrongFalsely : Prop := fnKeepLastFourDigitsTwiceHidesAllRow.holds Trym.pinned (OpenSpec.ofChange fnKeepLastFourDigitsTwiceHidesAllWrong)

end Rows
end Go.Proofs.Qxb6604070aMods

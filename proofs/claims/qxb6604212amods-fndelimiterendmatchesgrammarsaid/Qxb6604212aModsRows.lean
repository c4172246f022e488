/-
  No cell of these rows narrows 'for every input' (looked for: loops, veiled, ifaces, maps, wideKeys, modest, calm, conditions, laid).
  DERIVED. THE GIVEN ROWS OF THIS SEAT. 1 by the template 'for every input the law returns true; each argument reads behind the call as it read before'; 0 by the template 'total and deterministic' (their statements: Qxb6604212aModsTotals.lean).
  GIVEN WITH THE SEED: the statements are not yours to turn. If you find one false, say at which input.
  Laid BY PROGRAM, IN A SANDBOX (cutbox-rows.mjs): the forced cells as the released guide's own fill.sh prints them over the translation 3ab7704166a67698… (all of the seat's roots in one cut). By AI agents, Wed Nov 11 2026. No macro, syntax, notation, axiom, sorry.
-/
import Derived.Test.Qxb6604212aModsChecked
import GoSem.Claim
import GoSem.ClaimJoined
import GoSem.ClaimMapViews
import Derived.JoinedTies
import Derived.KernelRfl
namespace Go.Proofs.Qxb6604212aMods
/- THE CELL 'sum', in the pinned program and in every row, IS THE sha256 OF THE DUMP (.gsa) THAT Qxb6604212aModsProg.lean LOADS. Nothing in Lean hashes anything: it is a label: what it is worth is what the hold of that sum in a sandbox is worth. -/
noncomputable def Trym.pinned : Pinned := { name := "qxb6604212amods", sum := "3ab7704166a67698538e5c6604af5db52daa28382429e5e4f38707254af85bc0", checked := Trym.checked }
namespace Rows
def none {H : Type} : Left H := { results := [], args := [] }

/-- 'zzlaws_internal_httpd_b1.FnDelimiterEndMatchesGrammar': WHATEVER THE INPUT: true; the input reads as it did. -/
def fnDelimiterEndMatchesGrammarSpec : ChangeSpec := { name := "fnDelimiterEndMatchesGrammar", fn := fun _ => fun
  | [d1, d2] => { results := [.lit (.bool true)], args := [d1, d2] }
  | _ => none }
def fnDelimiterEndMatchesGrammarRow : OpenClaim := { program := "qxb6604212amods", sum := "3ab7704166a67698538e5c6604af5db52daa28382429e5e4f38707254af85bc0", func := "example.com/sluice/sluice/zzlaws_internal_httpd_b1.FnDelimiterEndMatchesGrammar", spec := "fnDelimiterEndMatchesGrammar", make := .lifted ["publicsums"], apart := false }
def FnDelimiterEndMatchesGrammarSaid : Prop := fnDelimiterEndMatchesGrammarRow.holds Trym.pinned (OpenSpec.ofChange fnDelimiterEndMatchesGrammarSpec)

/-- ITS FALSE NEIGHBOUR: 'it returns false'. Refute it at one input. -/
def fnDelimiterEndMatchesGrammarWrong : ChangeSpec := { name := "fnDelimiterEndMatchesGrammar", fn := fun _ => fun
  | [d1, d2] => { results := [.lit (.bool false)], args := [d1, d2] }
  | _ => none }
def FnDelimiterEndMatchesGrammarWrongFalsely : Prop := fnDelimiterEndMatchesGrammarRow.holds Trym.pinned (OpenSpec.ofChange fnDelimiterEndMatchesGrammarWrong)

end Rows
end Go.Proofs.Qxb6604212aMods

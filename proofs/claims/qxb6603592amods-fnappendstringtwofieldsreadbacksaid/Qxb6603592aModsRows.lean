/-
  No cell of these rows narrows 'for every input' (looked for: loops, veiled, ifaces, maps, wideKeys, modest, calm, conditions, laid).
  DERIVED. THE GIVEN ROWS OF THIS SEAT. 1 by the template 'for every input the law returns true; each argument reads behind the call as it read before'; 0 by the template 'total and deterministic' (their statements: Qxb6603592aModsTotals.lean).
  GIVEN WITH THE SEED: the statements are not yours to turn. If you find one false, say at which input.
  Laid BY PROGRAM, IN A SANDBOX (cutbox-rows.mjs): the forced cells as the released guide's own fill.sh prints them over the translation 81725f1dea173326… (all of the seat's roots in one cut). By AI agents, Wed Nov 11 2026. No macro, syntax, notation, axiom, sorry.
-/
import Derived.Test.Qxb6603592aModsChecked
import GoSem.Claim
import GoSem.ClaimJoined
import GoSem.ClaimMapViews
import Derived.JoinedTies
import Derived.KernelRfl
namespace Go.Proofs.Qxb6603592aMods
/- THE CELL 'sum', in the pinned program and in every row, IS THE sha256 OF THE DUMP (.gsa) THAT Qxb6603592aModsProg.lean LOADS. Nothing in Lean hashes anything: it is a label: what it is worth is what the hold of that sum in a sandbox is worth. -/
noncomputable def Trym.pinned : Pinned := { name := "qxb6603592amods", sum := "81725f1dea173326a3280c615df00aa2866d0163510fd48aef109f66bb7dcd07", checked := Trym.checked }
namespace Rows
def none {H : Type} : Left H := { results := [], args := [] }

/-- 'zzlaws_pkg_ledger_b1.FnAppendStringTwoFieldsReadBack': WHATEVER THE INPUT: true; the input reads as it did. -/
def fnAppendStringTwoFieldsReadBackSpec : ChangeSpec := { name := "fnAppendStringTwoFieldsReadBack", fn := fun _ => fun
  | [d1, d2, d3] => { results := [.lit (.bool true)], args := [d1, d2, d3] }
  | _ => none }
def fnAppendStringTwoFieldsReadBackRow : OpenClaim := { program := "qxb6603592amods", sum := "81725f1dea173326a3280c615df00aa2866d0163510fd48aef109f66bb7dcd07", func := "example.com/tillbook/tillbook/zzlaws_pkg_ledger_b1.FnAppendStringTwoFieldsReadBack", spec := "fnAppendStringTwoFieldsReadBack", make := .lifted ["publicsums"], apart := false }
def FnAppendStringTwoFieldsReadBackSaid : Prop := fnAppendStringTwoFieldsReadBackRow.holds Trym.pinned (OpenSpec.ofChange fnAppendStringTwoFieldsReadBackSpec)

/-- ITS FALSE NEIGHBOUR: 'it returns false'. Refute it at one input. -/
def fnAppendStringTwoFieldsReadBackWrong : ChangeSpec := { name := "fnAppendStringTwoFieldsReadBack", fn := fun _ => fun
  | [d1, d2, d3] => { results := [.lit (.bool false)], args := [d1, d2, d3] }
  | _ => none }
def FnAppendStringTwoFieldsReadBackWrongFalsely : Prop := fnAppendStringTwoFieldsReadBackRow.holds Trym.pinned (OpenSpec.ofChange fnAppendStringTwoFieldsReadBackWrong)

end Rows
end Go.Proofs.Qxb6603592aMods

/-
  No cell of these rows narrows 'for every input' (looked for: loops, veiled, ifaces, maps, wideKeys, modest, calm, conditions, laid).
  DERIVED. THE GIVEN ROWS OF THIS SEAT. 1 by the template 'for every input the law returns true; each argument reads behind the call as it read before'; 0 by the template 'total and deterministic' (their statements: Qxb6603402aModsTotals.lean).
  GIVEN WITH THE SEED: the statements are not yours to turn. If you find one false, say at which input.
  Laid BY PROGRAM, IN A SANDBOX (cutbox-rows.mjs): the forced cells as the released guide's own fill.sh prints them over the translation 7df93a50523da913… (all of the seat's roots in one cut). By AI agents, Wed Nov 11 2026. No macro, syntax, notation, axiom, sorry.
-/
import Derived.Test.Qxb6603402aModsChecked
import GoSem.Claim
import GoSem.ClaimJoined
import GoSem.ClaimMapViews
import Derived.JoinedTies
import Derived.KernelRfl
namespace Go.Proofs.Qxb6603402aMods
/- THE CELL 'sum', in the pinned program and in every row, IS THE sha256 OF THE DUMP (.gsa) THAT Qxb6603402aModsProg.lean LOADS. Nothing in Lean hashes anything: it is a label: what it is worth is what the hold of that sum in a sandbox is worth. -/
noncomputable def Trym.pinned : Pinned := { name := "qxb6603402amods", sum := "7df93a50523da9135b3c3c6e0ffdebec8c152853bcaaa26df2430ff2fb81c324", checked := Trym.checked }
namespace Rows
def none {H : Type} : Left H := { results := [], args := [] }

/-- 'zzlaws_internal_grpcwire_b1.FnReservedHeaderPseudoAndCustom': WHATEVER THE INPUT: true; the input reads as it did. -/
def fnReservedHeaderPseudoAndCustomSpec : ChangeSpec := { name := "fnReservedHeaderPseudoAndCustom", fn := fun _ => fun
  | [d] => { results := [.lit (.bool true)], args := [d] }
  | _ => none }
def fnReservedHeaderPseudoAndCustomRow : OpenClaim := { program := "qxb6603402amods", sum := "7df93a50523da9135b3c3c6e0ffdebec8c152853bcaaa26df2430ff2fb81c324", func := "example.com/changeweir/changeweir/zzlaws_internal_grpcwire_b1.FnReservedHeaderPseudoAndCustom", spec := "fnReservedHeaderPseudoAndCustom", make := .lifted ["publicsums"], apart := false }
def FnReservedHeaderPseudoAndCustomSaid : Prop := fnReservedHeaderPseudoAndCustomRow.holds Trym.pinned (OpenSpec.ofChange fnReservedHeaderPseudoAndCustomSpec)

/-- ITS FALSE NEIGHBOUR: 'it returns false'. Refute it at one input. -/
def fnReservedHeaderPseudoAndCustomWrong : ChangeSpec := { name := "fnReservedHeaderPseudoAndCustom", fn := fun _ => fun
  | [d] => { results := [.lit (.bool false)], args := [d] }
  | _ => none }
def FnReservedHeaderPseudoAndCustomWrongFalsely : Prop := fnReservedHeaderPseudoAndCustomRow.holds Trym.pinned (OpenSpec.ofChange fnReservedHeaderPseudoAndCustomWrong)

end Rows
end Go.Proofs.Qxb6603402aMods

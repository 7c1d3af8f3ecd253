/-
  No cell of these rows narrows 'for every input' (looked for: loops, veiled, ifaces, maps, wideKeys, modest, calm, conditions, laid).
  DERIVED. THE GIVEN ROWS OF THIS SEAT. 2 by the template 'for every input the law returns true; each argument reads behind the call as it read before'; 0 by the template 'total and deterministic' (their statements: Qxb6603537aModsTotals.lean).
  GIVEN WITH THE SEED: the statements are not yours to turn. If you find one false, say at which input.
  Laid BY PROGRAM, IN A SANDBOX (cutbox-rows.mjs): the forced cells as the released guide's own fill.sh prints them over the translation 5f276cf427fec26a… (all of the seat's roots in one cut). By AI agents, Wed Nov 11 2026. No macro, syntax, notation, axiom, sorry.
-/
import Derived.Test.Qxb6603537aModsChecked
import GoSem.Claim
import GoSem.ClaimJoined
import GoSem.ClaimMapViews
import Derived.JoinedTies
import Derived.KernelRfl
namespace Go.Proofs.Qxb6603537aMods
/- THE CELL 'sum', in the pinned program and in every row, IS THE sha256 OF THE DUMP (.gsa) THAT Qxb6603537aModsProg.lean LOADS. Nothing in Lean hashes anything: it is a label: what it is worth is what the hold of that sum in a sandbox is worth. -/
noncomputable def Trym.pinned : Pinned := { name := "qxb6603537amods", sum := "5f276cf427fec26aee525745a15f2b3842b07c41908c1bf9c37b4a7c6b63d388", checked := Trym.checked }
namespace Rows
def none {H : Type} : Left H := { results := [], args := [] }

/-- 'zzlaws_root_b1.FnMariaServerIDSplitsBack': WHATEVER THE INPUT: true; the input reads as it did. -/
def fnMariaServerIDSplitsBackSpec : ChangeSpec := { name := "fnMariaServerIDSplitsBack", fn := fun _ => fun
  | [d1, d2] => { results := [.lit (.bool true)], args := [d1, d2] }
  | _ => none }
def fnMariaServerIDSplitsBackRow : OpenClaim := { program := "qxb6603537amods", sum := "5f276cf427fec26aee525745a15f2b3842b07c41908c1bf9c37b4a7c6b63d388", func := "example.com/pactwright/pactwright/zzlaws_root_b1.FnMariaServerIDSplitsBack", spec := "fnMariaServerIDSplitsBack", make := .lifted ["publicsums"], apart := false }
def FnMariaServerIDSplitsBackSaid : Prop := fnMariaServerIDSplitsBackRow.holds Trym.pinned (OpenSpec.ofChange fnMariaServerIDSplitsBackSpec)

/-- ITS FALSE NEIGHBOUR: 'it returns false'. Refute it at one input. -/
def fnMariaServerIDSplitsBackWrong : ChangeSpec := { name := "fnMariaServerIDSplitsBack", fn := fun _ => fun
  | [d1, d2] => { results := [.lit (.bool false)], args := [d1, d2] }
  | _ => none }
def FnMariaServerIDSplitsBackWrongFalsely : Prop := fnMariaServerIDSplitsBackRow.holds Trym.pinned (OpenSpec.ofChange fnMariaServerIDSplitsBackWrong)

/-- 'zzlaws_root_b1.FnMariaServerIDInjective': WHATEVER THE INPUT: true; the input reads as it did. -/
def fnMariaServerIDInjectiveSpec : ChangeSpec := { name := "fnMariaServerIDInjective", fn := fun _ => fun
  | [d1, d2, d3, d4] => { results := [.lit (.bool true)], args := [d1, d2, d3, d4] }
  | _ => none }
def fnMariaServerIDInjectiveRow : OpenClaim := { program := "qxb6603537amods", sum := "5f276cf427fec26aee525745a15f2b3842b07c41908c1bf9c37b4a7c6b63d388", func := "example.com/pactwright/pactwright/zzlaws_root_b1.FnMariaServerIDInjective", spec := "fnMariaServerIDInjective", make := .lifted ["publicsums"], apart := false }
def FnMariaServerIDInjectiveSaid : Prop := fnMariaServerIDInjectiveRow.holds Trym.pinned (OpenSpec.ofChange fnMariaServerIDInjectiveSpec)

/-- ITS FALSE NEIGHBOUR: 'it returns false'. Refute it at one input. -/
def fnMariaServerIDInjectiveWrong : ChangeSpec := { name := "fnMariaServerIDInjective", fn := fun _ => fun
  | [d1, d2, d3, d4] => { results := [.lit (.bool false)], args := [d1, d2, d3, d4] }
  | _ => none }
def FnMariaServerIDInjectiveWrongFalsely : Prop := fnMariaServerIDInjectiveRow.holds Trym.pinned (OpenSpec.ofChange fnMariaServerIDInjectiveWrong)

end Rows
end Go.Proofs.Qxb6603537aMods

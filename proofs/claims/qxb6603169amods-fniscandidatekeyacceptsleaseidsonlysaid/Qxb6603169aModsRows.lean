/-
  No cell of these rows narrows 'for every input' (looked for: loops, veiled, ifaces, maps, wideKeys, modest, calm, conditions, laid).
  DERIVED. THE GIVEN ROWS OF THIS SEAT. 4 by the template 'for every input the law returns true; each argument reads behind the call as it read before'; 0 by the template 'total and deterministic' (their statements: Qxb6603169aModsTotals.lean).
  GIVEN WITH THE SEED: the statements are not yours to turn. If you find one false, say at which input.
  Laid BY PROGRAM, IN A SANDBOX (cutbox-rows.mjs): the forced cells as the released guide's own fill.sh prints them over the translation 053b9da35aba54ca… (all of the seat's roots in one cut). By AI agents, Wed Nov 11 2026. No macro, syntax, notation, axiom, sorry.
-/
import Derived.Test.Qxb6603169aModsChecked
import GoSem.Claim
import GoSem.ClaimJoined
import GoSem.ClaimMapViews
import Derived.JoinedTies
import Derived.KernelRfl
namespace Go.Proofs.Qxb6603169aMods
/- THE CELL 'sum', in the pinned program and in every row, IS THE sha256 OF THE DUMP (.gsa) THAT Qxb6603169aModsProg.lean LOADS. Nothing in Lean hashes anything: it is a label: what it is worth is what the hold of that sum in a sandbox is worth. -/
noncomputable def Trym.pinned : Pinned := { name := "qxb6603169amods", sum := "053b9da35aba54caf45eabc017df66858005d286916e4bf5f111ee8851827796", checked := Trym.checked }
namespace Rows
def none {H : Type} : Left H := { results := [], args := [] }

/-- 'zzlaws_etcd_b1.FnIsCandidateKeyAcceptsLeaseIDsOnly': WHATEVER THE INPUT: true; the input reads as it did. -/
def fnIsCandidateKeyAcceptsLeaseIDsOnlySpec : ChangeSpec := { name := "fnIsCandidateKeyAcceptsLeaseIDsOnly", fn := fun _ => fun
  | [d1, d2, d3] => { results := [.lit (.bool true)], args := [d1, d2, d3] }
  | _ => none }
def fnIsCandidateKeyAcceptsLeaseIDsOnlyRow : OpenClaim := { program := "qxb6603169amods", sum := "053b9da35aba54caf45eabc017df66858005d286916e4bf5f111ee8851827796", func := "example.com/atmost1/atmost1/zzlaws_etcd_b1.FnIsCandidateKeyAcceptsLeaseIDsOnly", spec := "fnIsCandidateKeyAcceptsLeaseIDsOnly", make := .lifted ["publicsums"], apart := false }
def FnIsCandidateKeyAcceptsLeaseIDsOnlySaid : Prop := fnIsCandidateKeyAcceptsLeaseIDsOnlyRow.holds Trym.pinned (OpenSpec.ofChange fnIsCandidateKeyAcceptsLeaseIDsOnlySpec)

/-- ITS FALSE NEIGHBOUR: 'it returns false'. Refute it at one input. -/
def fnIsCandidateKeyAcceptsLeaseIDsOnlyWrong : ChangeSpec := { name := "fnIsCandidateKeyAcceptsLeaseIDsOnly", fn := fun _ => fun
  | [d1, d2, d3] => { results := [.lit (.bool false)], args := [d1, d2, d3] }
  | _ => none }
def FnIsCandidateKeyAcceptsLeaseIDsOnlyWrongFalsely : Prop := fnIsCandidateKeyAcceptsLeaseIDsOnlyRow.holds Trym.pinned (OpenSpec.ofChange fnIsCandidateKeyAcceptsLeaseIDsOnlyWrong)

/-- 'zzlaws_etcd_b1.FnIsCandidateKeyIdsSplitAndIgnorePrefix': WHATEVER THE INPUT: true; the input reads as it did. -/
def fnIsCandidateKeyIdsSplitAndIgnorePrefixSpec : ChangeSpec := { name := "fnIsCandidateKeyIdsSplitAndIgnorePrefix", fn := fun _ => fun
  | [d1, d2, d3, d4] => { results := [.lit (.bool true)], args := [d1, d2, d3, d4] }
  | _ => none }
def fnIsCandidateKeyIdsSplitAndIgnorePrefixRow : OpenClaim := { program := "qxb6603169amods", sum := "053b9da35aba54caf45eabc017df66858005d286916e4bf5f111ee8851827796", func := "example.com/atmost1/atmost1/zzlaws_etcd_b1.FnIsCandidateKeyIdsSplitAndIgnorePrefix", spec := "fnIsCandidateKeyIdsSplitAndIgnorePrefix", make := .lifted ["publicsums"], apart := false }
def FnIsCandidateKeyIdsSplitAndIgnorePrefixSaid : Prop := fnIsCandidateKeyIdsSplitAndIgnorePrefixRow.holds Trym.pinned (OpenSpec.ofChange fnIsCandidateKeyIdsSplitAndIgnorePrefixSpec)

/-- ITS FALSE NEIGHBOUR: 'it returns false'. Refute it at one input. -/
def fnIsCandidateKeyIdsSplitAndIgnorePrefixWrong : ChangeSpec := { name := "fnIsCandidateKeyIdsSplitAndIgnorePrefix", fn := fun _ => fun
  | [d1, d2, d3, d4] => { results := [.lit (.bool false)], args := [d1, d2, d3, d4] }
  | _ => none }
def FnIsCandidateKeyIdsSplitAndIgnorePrefixWrongFalsely : Prop := fnIsCandidateKeyIdsSplitAndIgnorePrefixRow.holds Trym.pinned (OpenSpec.ofChange fnIsCandidateKeyIdsSplitAndIgnorePrefixWrong)

/-- 'zzlaws_etcd_b1.FnEpochOfMatchesLastStartBelow': WHATEVER THE INPUT: true; the input reads as it did. -/
def fnEpochOfMatchesLastStartBelowSpec : ChangeSpec := { name := "fnEpochOfMatchesLastStartBelow", fn := fun _ => fun
  | [d1, d2, d3, d4, d5, d6] => { results := [.lit (.bool true)], args := [d1, d2, d3, d4, d5, d6] }
  | _ => none }
def fnEpochOfMatchesLastStartBelowRow : OpenClaim := { program := "qxb6603169amods", sum := "053b9da35aba54caf45eabc017df66858005d286916e4bf5f111ee8851827796", func := "example.com/atmost1/atmost1/zzlaws_etcd_b1.FnEpochOfMatchesLastStartBelow", spec := "fnEpochOfMatchesLastStartBelow", make := .lifted ["publicsums"], apart := false }
def FnEpochOfMatchesLastStartBelowSaid : Prop := fnEpochOfMatchesLastStartBelowRow.holds Trym.pinned (OpenSpec.ofChange fnEpochOfMatchesLastStartBelowSpec)

/-- ITS FALSE NEIGHBOUR: 'it returns false'. Refute it at one input. -/
def fnEpochOfMatchesLastStartBelowWrong : ChangeSpec := { name := "fnEpochOfMatchesLastStartBelow", fn := fun _ => fun
  | [d1, d2, d3, d4, d5, d6] => { results := [.lit (.bool false)], args := [d1, d2, d3, d4, d5, d6] }
  | _ => none }
def FnEpochOfMatchesLastStartBelowWrongFalsely : Prop := fnEpochOfMatchesLastStartBelowRow.holds Trym.pinned (OpenSpec.ofChange fnEpochOfMatchesLastStartBelowWrong)

/-- 'zzlaws_etcd_b1.FnEpochOfMonotoneAndBounded': WHATEVER THE INPUT: true; the input reads as it did. -/
def fnEpochOfMonotoneAndBoundedSpec : ChangeSpec := { name := "fnEpochOfMonotoneAndBounded", fn := fun _ => fun
  | [d1, d2, d3, d4, d5, d6, d7] => { results := [.lit (.bool true)], args := [d1, d2, d3, d4, d5, d6, d7] }
  | _ => none }
def fnEpochOfMonotoneAndBoundedRow : OpenClaim := { program := "qxb6603169amods", sum := "053b9da35aba54caf45eabc017df66858005d286916e4bf5f111ee8851827796", func := "example.com/atmost1/atmost1/zzlaws_etcd_b1.FnEpochOfMonotoneAndBounded", spec := "fnEpochOfMonotoneAndBounded", make := .lifted ["publicsums"], apart := false }
def FnEpochOfMonotoneAndBoundedSaid : Prop := fnEpochOfMonotoneAndBoundedRow.holds Trym.pinned (OpenSpec.ofChange fnEpochOfMonotoneAndBoundedSpec)

/-- ITS FALSE NEIGHBOUR: 'it returns false'. Refute it at one input. -/
def fnEpochOfMonotoneAndBoundedWrong : ChangeSpec := { name := "fnEpochOfMonotoneAndBounded", fn := fun _ => fun
  | [d1, d2, d3, d4, d5, d6, d7] => { results := [.lit (.bool false)], args := [d1, d2, d3, d4, d5, d6, d7] }
  | _ => none }
def FnEpochOfMonotoneAndBoundedWrongFalsely : Prop := fnEpochOfMonotoneAndBoundedRow.holds Trym.pinned (OpenSpec.ofChange fnEpochOfMonotoneAndBoundedWrong)

end Rows
end Go.Proofs.Qxb6603169aMods

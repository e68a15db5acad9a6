/-
  No cell of these rows narrows 'for every input' (looked for: loops, veiled, ifaces, maps, wideKeys, modest, calm, conditions, laid).
  DERIVED. THE GIVEN ROWS OF THIS SEAT. 4 by the template 'for every input the law returns true; each argument reads behind the call as it read before'; 0 by the template 'total and deterministic' (their statements: Qxb6600923aModsTotals.lean).
  GIVEN WITH THE SEED: the statements are not yours to turn. If you find one false, say at which input.
  Laid BY PROGRAM, IN A SANDBOX (cutbox-rows.mjs): the forced cells as the released guide's own fill.sh prints them over the translation c08a8616c4999ef7… (all of the seat's roots in one cut). By AI agents, Wed Nov 11 2026. No macro, syntax, notation, axiom, sorry.
-/
import Derived.Test.Qxb6600923aModsChecked
import GoSem.Claim
import GoSem.ClaimJoined
import GoSem.ClaimMapViews
import Derived.JoinedTies
import Derived.KernelRfl
namespace Go.Proofs.Qxb6600923aMods
/- THE CELL 'sum', in the pinned program and in every row, IS THE sha256 OF THE DUMP (.gsa) THAT Qxb6600923aModsProg.lean LOADS. Nothing in Lean hashes anything: it is a label: what it is worth is what the hold of that sum in a sandbox is worth. -/
noncomputable def Trym.pinned : Pinned := { name := "qxb6600923amods", sum := "c08a8616c4999ef71ad1af998220a383ef846a7435b0759d7828c9ab55b8f66e", checked := Trym.checked }
namespace Rows
def none {H : Type} : Left H := { results := [], args := [] }

/-- 'zzlaws_internal_coordinator_b1.FnNodeCountHoldsTrichotomy': WHATEVER THE INPUT: true; the input reads as it did. -/
def fnNodeCountHoldsTrichotomySpec : ChangeSpec := { name := "fnNodeCountHoldsTrichotomy", fn := fun _ => fun
  | [d1, d2] => { results := [.lit (.bool true)], args := [d1, d2] }
  | _ => none }
def fnNodeCountHoldsTrichotomyRow : OpenClaim := { program := "qxb6600923amods", sum := "c08a8616c4999ef71ad1af998220a383ef846a7435b0759d7828c9ab55b8f66e", func := "example.com/tideline/tideline/zzlaws_internal_coordinator_b1.FnNodeCountHoldsTrichotomy", spec := "fnNodeCountHoldsTrichotomy", make := .lifted ["publicsums"], apart := false }
def FnNodeCountHoldsTrichotomySaid : Prop := fnNodeCountHoldsTrichotomyRow.holds Trym.pinned (OpenSpec.ofChange fnNodeCountHoldsTrichotomySpec)

/-- ITS FALSE NEIGHBOUR: 'it returns false'. Refute it at one input. -/
def fnNodeCountHoldsTrichotomyWrong : ChangeSpec := { name := "fnNodeCountHoldsTrichotomy", fn := fun _ => fun
  | [d1, d2] => { results := [.lit (.bool false)], args := [d1, d2] }
  | _ => none }
def FnNodeCountHoldsTrichotomyWrongFalsely : Prop := fnNodeCountHoldsTrichotomyRow.holds Trym.pinned (OpenSpec.ofChange fnNodeCountHoldsTrichotomyWrong)

/-- 'zzlaws_internal_coordinator_b1.FnNodeCountHoldsConverse': WHATEVER THE INPUT: true; the input reads as it did. -/
def fnNodeCountHoldsConverseSpec : ChangeSpec := { name := "fnNodeCountHoldsConverse", fn := fun _ => fun
  | [d1, d2, d3] => { results := [.lit (.bool true)], args := [d1, d2, d3] }
  | _ => none }
def fnNodeCountHoldsConverseRow : OpenClaim := { program := "qxb6600923amods", sum := "c08a8616c4999ef71ad1af998220a383ef846a7435b0759d7828c9ab55b8f66e", func := "example.com/tideline/tideline/zzlaws_internal_coordinator_b1.FnNodeCountHoldsConverse", spec := "fnNodeCountHoldsConverse", make := .lifted ["publicsums"], apart := false }
def FnNodeCountHoldsConverseSaid : Prop := fnNodeCountHoldsConverseRow.holds Trym.pinned (OpenSpec.ofChange fnNodeCountHoldsConverseSpec)

/-- ITS FALSE NEIGHBOUR: 'it returns false'. Refute it at one input. -/
def fnNodeCountHoldsConverseWrong : ChangeSpec := { name := "fnNodeCountHoldsConverse", fn := fun _ => fun
  | [d1, d2, d3] => { results := [.lit (.bool false)], args := [d1, d2, d3] }
  | _ => none }
def FnNodeCountHoldsConverseWrongFalsely : Prop := fnNodeCountHoldsConverseRow.holds Trym.pinned (OpenSpec.ofChange fnNodeCountHoldsConverseWrong)

/-- 'zzlaws_internal_coordinator_b1.FnSameVotersMatchesEncoding': WHATEVER THE INPUT: true; the input reads as it did. -/
def fnSameVotersMatchesEncodingSpec : ChangeSpec := { name := "fnSameVotersMatchesEncoding", fn := fun _ => fun
  | [d1, d2] => { results := [.lit (.bool true)], args := [d1, d2] }
  | _ => none }
def fnSameVotersMatchesEncodingRow : OpenClaim := { program := "qxb6600923amods", sum := "c08a8616c4999ef71ad1af998220a383ef846a7435b0759d7828c9ab55b8f66e", func := "example.com/tideline/tideline/zzlaws_internal_coordinator_b1.FnSameVotersMatchesEncoding", spec := "fnSameVotersMatchesEncoding", make := .lifted ["publicsums"], apart := false }
def FnSameVotersMatchesEncodingSaid : Prop := fnSameVotersMatchesEncodingRow.holds Trym.pinned (OpenSpec.ofChange fnSameVotersMatchesEncodingSpec)

/-- ITS FALSE NEIGHBOUR: 'it returns false'. Refute it at one input. -/
def fnSameVotersMatchesEncodingWrong : ChangeSpec := { name := "fnSameVotersMatchesEncoding", fn := fun _ => fun
  | [d1, d2] => { results := [.lit (.bool false)], args := [d1, d2] }
  | _ => none }
def FnSameVotersMatchesEncodingWrongFalsely : Prop := fnSameVotersMatchesEncodingRow.holds Trym.pinned (OpenSpec.ofChange fnSameVotersMatchesEncodingWrong)

/-- 'zzlaws_internal_coordinator_b1.FnSameVotersIsEquivalence': WHATEVER THE INPUT: true; the input reads as it did. -/
def fnSameVotersIsEquivalenceSpec : ChangeSpec := { name := "fnSameVotersIsEquivalence", fn := fun _ => fun
  | [d1, d2, d3] => { results := [.lit (.bool true)], args := [d1, d2, d3] }
  | _ => none }
def fnSameVotersIsEquivalenceRow : OpenClaim := { program := "qxb6600923amods", sum := "c08a8616c4999ef71ad1af998220a383ef846a7435b0759d7828c9ab55b8f66e", func := "example.com/tideline/tideline/zzlaws_internal_coordinator_b1.FnSameVotersIsEquivalence", spec := "fnSameVotersIsEquivalence", make := .lifted ["publicsums"], apart := false }
def FnSameVotersIsEquivalenceSaid : Prop := fnSameVotersIsEquivalenceRow.holds Trym.pinned (OpenSpec.ofChange fnSameVotersIsEquivalenceSpec)

/-- ITS FALSE NEIGHBOUR: 'it returns false'. Refute it at one input. -/
def fnSameVotersIsEquivalenceWrong : ChangeSpec := { name := "fnSameVotersIsEquivalence", fn := fun _ => fun
  | [d1, d2, d3] => { results := [.lit (.bool false)], args := [d1, d2, d3] }
  | _ => none }
def FnSameVotersIsEquivalenceWrongFalsely : Prop := fnSameVotersIsEquivalenceRow.holds Trym.pinned (OpenSpec.ofChange fnSameVotersIsEquivalenceWrong)

end Rows
end Go.Proofs.Qxb6600923aMods

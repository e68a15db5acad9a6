/-
  No cell of these rows narrows 'for every input' (looked for: loops, veiled, ifaces, maps, wideKeys, modest, calm, conditions, laid).
  DERIVED. THE GIVEN ROWS OF THIS SEAT. 6 by the template 'for every input the law returns true; each argument reads behind the call as it read before'; 0 by the template 'total and deterministic' (their statements: Qxb6600885aModsTotals.lean).
  GIVEN WITH THE SEED: the statements are not yours to turn. If you find one false, say at which input.
  Laid BY PROGRAM, IN A SANDBOX (cutbox-rows.mjs): the forced cells as the released guide's own fill.sh prints them over the translation 0c5d2ada5cf26a18… (all of the seat's roots in one cut). By AI agents, Wed Nov 11 2026. No macro, syntax, notation, axiom, sorry.
-/
import Derived.Test.Qxb6600885aModsChecked
import GoSem.Claim
import GoSem.ClaimJoined
import GoSem.ClaimMapViews
import Derived.JoinedTies
import Derived.KernelRfl
namespace Go.Proofs.Qxb6600885aMods
/- THE CELL 'sum', in the pinned program and in every row, IS THE sha256 OF THE DUMP (.gsa) THAT Qxb6600885aModsProg.lean LOADS. Nothing in Lean hashes anything: it is a label: what it is worth is what the hold of that sum in a sandbox is worth. -/
noncomputable def Trym.pinned : Pinned := { name := "qxb6600885amods", sum := "0c5d2ada5cf26a18c631d57b5d875c6e7426447e871893a443db152b40241740", checked := Trym.checked }
namespace Rows
def none {H : Type} : Left H := { results := [], args := [] }

/-- 'zzlaws_pkg_walk_b1.FnResolveMatchesSortedChainModel': WHATEVER THE INPUT: true; the input reads as it did. -/
def fnResolveMatchesSortedChainModelSpec : ChangeSpec := { name := "fnResolveMatchesSortedChainModel", fn := fun _ => fun
  | [d1, d2, d3] => { results := [.lit (.bool true)], args := [d1, d2, d3] }
  | _ => none }
def fnResolveMatchesSortedChainModelRow : OpenClaim := { program := "qxb6600885amods", sum := "0c5d2ada5cf26a18c631d57b5d875c6e7426447e871893a443db152b40241740", func := "example.com/concordance/concordance/zzlaws_pkg_walk_b1.FnResolveMatchesSortedChainModel", spec := "fnResolveMatchesSortedChainModel", make := .lifted ["publicsums"], apart := false }
def FnResolveMatchesSortedChainModelSaid : Prop := fnResolveMatchesSortedChainModelRow.holds Trym.pinned (OpenSpec.ofChange fnResolveMatchesSortedChainModelSpec)

/-- ITS FALSE NEIGHBOUR: 'it returns false'. Refute it at one input. -/
def fnResolveMatchesSortedChainModelWrong : ChangeSpec := { name := "fnResolveMatchesSortedChainModel", fn := fun _ => fun
  | [d1, d2, d3] => { results := [.lit (.bool false)], args := [d1, d2, d3] }
  | _ => none }
def FnResolveMatchesSortedChainModelWrongFalsely : Prop := fnResolveMatchesSortedChainModelRow.holds Trym.pinned (OpenSpec.ofChange fnResolveMatchesSortedChainModelWrong)

/-- 'zzlaws_pkg_walk_b1.FnResolveEndsDeepestOnPath': WHATEVER THE INPUT: true; the input reads as it did. -/
def fnResolveEndsDeepestOnPathSpec : ChangeSpec := { name := "fnResolveEndsDeepestOnPath", fn := fun _ => fun
  | [d1, d2, d3] => { results := [.lit (.bool true)], args := [d1, d2, d3] }
  | _ => none }
def fnResolveEndsDeepestOnPathRow : OpenClaim := { program := "qxb6600885amods", sum := "0c5d2ada5cf26a18c631d57b5d875c6e7426447e871893a443db152b40241740", func := "example.com/concordance/concordance/zzlaws_pkg_walk_b1.FnResolveEndsDeepestOnPath", spec := "fnResolveEndsDeepestOnPath", make := .lifted ["publicsums"], apart := false }
def FnResolveEndsDeepestOnPathSaid : Prop := fnResolveEndsDeepestOnPathRow.holds Trym.pinned (OpenSpec.ofChange fnResolveEndsDeepestOnPathSpec)

/-- ITS FALSE NEIGHBOUR: 'it returns false'. Refute it at one input. -/
def fnResolveEndsDeepestOnPathWrong : ChangeSpec := { name := "fnResolveEndsDeepestOnPath", fn := fun _ => fun
  | [d1, d2, d3] => { results := [.lit (.bool false)], args := [d1, d2, d3] }
  | _ => none }
def FnResolveEndsDeepestOnPathWrongFalsely : Prop := fnResolveEndsDeepestOnPathRow.holds Trym.pinned (OpenSpec.ofChange fnResolveEndsDeepestOnPathWrong)

/-- 'zzlaws_pkg_walk_b1.FnResolveIgnoresMountOffPath': WHATEVER THE INPUT: true; the input reads as it did. -/
def fnResolveIgnoresMountOffPathSpec : ChangeSpec := { name := "fnResolveIgnoresMountOffPath", fn := fun _ => fun
  | [d1, d2, d3, d4, d5] => { results := [.lit (.bool true)], args := [d1, d2, d3, d4, d5] }
  | _ => none }
def fnResolveIgnoresMountOffPathRow : OpenClaim := { program := "qxb6600885amods", sum := "0c5d2ada5cf26a18c631d57b5d875c6e7426447e871893a443db152b40241740", func := "example.com/concordance/concordance/zzlaws_pkg_walk_b1.FnResolveIgnoresMountOffPath", spec := "fnResolveIgnoresMountOffPath", make := .lifted ["publicsums"], apart := false }
def FnResolveIgnoresMountOffPathSaid : Prop := fnResolveIgnoresMountOffPathRow.holds Trym.pinned (OpenSpec.ofChange fnResolveIgnoresMountOffPathSpec)

/-- ITS FALSE NEIGHBOUR: 'it returns false'. Refute it at one input. -/
def fnResolveIgnoresMountOffPathWrong : ChangeSpec := { name := "fnResolveIgnoresMountOffPath", fn := fun _ => fun
  | [d1, d2, d3, d4, d5] => { results := [.lit (.bool false)], args := [d1, d2, d3, d4, d5] }
  | _ => none }
def FnResolveIgnoresMountOffPathWrongFalsely : Prop := fnResolveIgnoresMountOffPathRow.holds Trym.pinned (OpenSpec.ofChange fnResolveIgnoresMountOffPathWrong)

/-- 'zzlaws_pkg_walk_b1.FnWithinSplitRejoins': WHATEVER THE INPUT: true; the input reads as it did. -/
def fnWithinSplitRejoinsSpec : ChangeSpec := { name := "fnWithinSplitRejoins", fn := fun _ => fun
  | [d1, d2] => { results := [.lit (.bool true)], args := [d1, d2] }
  | _ => none }
def fnWithinSplitRejoinsRow : OpenClaim := { program := "qxb6600885amods", sum := "0c5d2ada5cf26a18c631d57b5d875c6e7426447e871893a443db152b40241740", func := "example.com/concordance/concordance/zzlaws_pkg_walk_b1.FnWithinSplitRejoins", spec := "fnWithinSplitRejoins", make := .lifted ["publicsums"], apart := false }
def FnWithinSplitRejoinsSaid : Prop := fnWithinSplitRejoinsRow.holds Trym.pinned (OpenSpec.ofChange fnWithinSplitRejoinsSpec)

/-- ITS FALSE NEIGHBOUR: 'it returns false'. Refute it at one input. -/
def fnWithinSplitRejoinsWrong : ChangeSpec := { name := "fnWithinSplitRejoins", fn := fun _ => fun
  | [d1, d2] => { results := [.lit (.bool false)], args := [d1, d2] }
  | _ => none }
def FnWithinSplitRejoinsWrongFalsely : Prop := fnWithinSplitRejoinsRow.holds Trym.pinned (OpenSpec.ofChange fnWithinSplitRejoinsWrong)

/-- 'zzlaws_pkg_walk_b1.FnWithinJoinRoundTrip': WHATEVER THE INPUT: true; the input reads as it did. -/
def fnWithinJoinRoundTripSpec : ChangeSpec := { name := "fnWithinJoinRoundTrip", fn := fun _ => fun
  | [d1, d2] => { results := [.lit (.bool true)], args := [d1, d2] }
  | _ => none }
def fnWithinJoinRoundTripRow : OpenClaim := { program := "qxb6600885amods", sum := "0c5d2ada5cf26a18c631d57b5d875c6e7426447e871893a443db152b40241740", func := "example.com/concordance/concordance/zzlaws_pkg_walk_b1.FnWithinJoinRoundTrip", spec := "fnWithinJoinRoundTrip", make := .lifted ["publicsums"], apart := false }
def FnWithinJoinRoundTripSaid : Prop := fnWithinJoinRoundTripRow.holds Trym.pinned (OpenSpec.ofChange fnWithinJoinRoundTripSpec)

/-- ITS FALSE NEIGHBOUR: 'it returns false'. Refute it at one input. -/
def fnWithinJoinRoundTripWrong : ChangeSpec := { name := "fnWithinJoinRoundTrip", fn := fun _ => fun
  | [d1, d2] => { results := [.lit (.bool false)], args := [d1, d2] }
  | _ => none }
def FnWithinJoinRoundTripWrongFalsely : Prop := fnWithinJoinRoundTripRow.holds Trym.pinned (OpenSpec.ofChange fnWithinJoinRoundTripWrong)

/-- 'zzlaws_pkg_walk_b1.FnWithinTransitive': WHATEVER THE INPUT: true; the input reads as it did. -/
def fnWithinTransitiveSpec : ChangeSpec := { name := "fnWithinTransitive", fn := fun _ => fun
  | [d1, d2, d3] => { results := [.lit (.bool true)], args := [d1, d2, d3] }
  | _ => none }
def fnWithinTransitiveRow : OpenClaim := { program := "qxb6600885amods", sum := "0c5d2ada5cf26a18c631d57b5d875c6e7426447e871893a443db152b40241740", func := "example.com/concordance/concordance/zzlaws_pkg_walk_b1.FnWithinTransitive", spec := "fnWithinTransitive", make := .lifted ["publicsums"], apart := false }
def FnWithinTransitiveSaid : Prop := fnWithinTransitiveRow.holds Trym.pinned (OpenSpec.ofChange fnWithinTransitiveSpec)

/-- ITS FALSE NEIGHBOUR: 'it returns false'. Refute it at one input. -/
def fnWithinTransitiveWrong : ChangeSpec := { name := "fnWithinTransitive", fn := fun _ => fun
  | [d1, d2, d3] => { results := [.lit (.bool false)], args := [d1, d2, d3] }
  | _ => none }
def FnWithinTransitiveWrongFalsely : Prop := fnWithinTransitiveRow.holds Trym.pinned (OpenSpec.ofChange fnWithinTransitiveWrong)

end Rows
end Go.Proofs.Qxb6600885aMods

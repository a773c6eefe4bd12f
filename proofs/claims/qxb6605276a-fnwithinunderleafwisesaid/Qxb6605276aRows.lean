/-
  No cell of these rows narrows 'for every input' (looked for: loops, veiled, ifaces, maps, wideKeys, modest, calm, conditions, laid).
  DERIVED. THE GIVEN ROWS OF THIS SEAT. 3 by the template 'for every input the law returns true; each argument reads behind the call as it read before'; 0 by the template 'total and deterministic' (their statements: Qxb6605276aTotals.lean).
  GIVEN WITH THE SEED: the statements are not yours to turn. If you find one false, say at which input.
  Laid BY PROGRAM, IN A SANDBOX (cutbox-rows.mjs): the forced cells as the released guide's own fill.sh prints them over the translation 0e0d15a9d803ef5a… (all of the seat's roots in one cut). By AI agents, Wed Nov 11 2026. No macro, syntax, notation, axiom, sorry.
-/
import Derived.Test.Qxb6605276aChecked
import GoSem.Claim
import GoSem.ClaimJoined
import GoSem.ClaimMapViews
import Derived.JoinedTies
import Derived.KernelRfl
namespace Go.Proofs.Qxb6605276a
/- THE CELL 'sum', in the pinned program and in every row, IS THE sha256 OF THE DUMP (.gsa) THAT Qxb6605276aProg.lean LOADS. Nothing in Lean hashes anything: it is a label: what it is worth is what the hold of that sum in a sandbox is worth. -/
noncomputable def Try.pinned : Pinned := { name := "qxb6605276a", sum := "0e0d15a9d803ef5a962ec45636d23eebabbb2919ce5ff9350d0af1126bbae296", checked := Try.checked }
namespace Rows
def none {H : Type} : Left H := { results := [], args := [] }

/-- 'zzlaws_root_b1.FnJoinWaysBestWorth': WHATEVER THE INPUT: true; the input reads as it did. -/
def fnJoinWaysBestWorthSpec : ChangeSpec := { name := "fnJoinWaysBestWorth", fn := fun _ => fun
  | [d1, d2, d3, d4, d5] => { results := [.lit (.bool true)], args := [d1, d2, d3, d4, d5] }
  | _ => none }
def fnJoinWaysBestWorthRow : OpenClaim := { program := "qxb6605276a", sum := "0e0d15a9d803ef5a962ec45636d23eebabbb2919ce5ff9350d0af1126bbae296", func := "synoptic.example/synoptic/zzlaws_root_b1.FnJoinWaysBestWorth", spec := "fnJoinWaysBestWorth", apart := false }
def FnJoinWaysBestWorthSaid : Prop := fnJoinWaysBestWorthRow.holds Try.pinned (OpenSpec.ofChange fnJoinWaysBestWorthSpec)

/-- ITS FALSE NEIGHBOUR: 'it returns false'. Refute it at one input. -/
def fnJoinWaysBestWorthWrong : ChangeSpec := { name := "fnJoinWaysBestWorth", fn := fun _ => fun
  | [d1, d2, d3, d4, d5] => { results := [.lit (.bool false)], args := [d1, d2, d3, d4, d5] }
  | _ => none }
def FnJoinWaysBestWorthWrongFalsely : Prop := fnJoinWaysBestWorthRow.holds Try.pinned (OpenSpec.ofChange fnJoinWaysBestWorthWrong)

/-- 'zzlaws_root_b1.FnJoinWaysEmptyUnitSwap': WHATEVER THE INPUT: true; the input reads as it did. -/
def fnJoinWaysEmptyUnitSwapSpec : ChangeSpec := { name := "fnJoinWaysEmptyUnitSwap", fn := fun _ => fun
  | [d1, d2, d3, d4, d5] => { results := [.lit (.bool true)], args := [d1, d2, d3, d4, d5] }
  | _ => none }
def fnJoinWaysEmptyUnitSwapRow : OpenClaim := { program := "qxb6605276a", sum := "0e0d15a9d803ef5a962ec45636d23eebabbb2919ce5ff9350d0af1126bbae296", func := "synoptic.example/synoptic/zzlaws_root_b1.FnJoinWaysEmptyUnitSwap", spec := "fnJoinWaysEmptyUnitSwap", apart := false }
def FnJoinWaysEmptyUnitSwapSaid : Prop := fnJoinWaysEmptyUnitSwapRow.holds Try.pinned (OpenSpec.ofChange fnJoinWaysEmptyUnitSwapSpec)

/-- ITS FALSE NEIGHBOUR: 'it returns false'. Refute it at one input. -/
def fnJoinWaysEmptyUnitSwapWrong : ChangeSpec := { name := "fnJoinWaysEmptyUnitSwap", fn := fun _ => fun
  | [d1, d2, d3, d4, d5] => { results := [.lit (.bool false)], args := [d1, d2, d3, d4, d5] }
  | _ => none }
def FnJoinWaysEmptyUnitSwapWrongFalsely : Prop := fnJoinWaysEmptyUnitSwapRow.holds Try.pinned (OpenSpec.ofChange fnJoinWaysEmptyUnitSwapWrong)

/-- 'zzlaws_root_b1.FnWithinUnderLeafwise': WHATEVER THE INPUT: true; the input reads as it did. -/
def fnWithinUnderLeafwiseSpec : ChangeSpec := { name := "fnWithinUnderLeafwise", fn := fun _ => fun
  | [d1, d2, d3, d4, d5, d6, d7, d8] => { results := [.lit (.bool true)], args := [d1, d2, d3, d4, d5, d6, d7, d8] }
  | _ => none }
def fnWithinUnderLeafwiseRow : OpenClaim := { program := "qxb6605276a", sum := "0e0d15a9d803ef5a962ec45636d23eebabbb2919ce5ff9350d0af1126bbae296", func := "synoptic.example/synoptic/zzlaws_root_b1.FnWithinUnderLeafwise", spec := "fnWithinUnderLeafwise", recurses := true, apart := false }
def FnWithinUnderLeafwiseSaid : Prop := fnWithinUnderLeafwiseRow.holds Try.pinned (OpenSpec.ofChange fnWithinUnderLeafwiseSpec)

/-- ITS FALSE NEIGHBOUR: 'it returns false'. Refute it at one input. -/
def fnWithinUnderLeafwiseWrong : ChangeSpec := { name := "fnWithinUnderLeafwise", fn := fun _ => fun
  | [d1, d2, d3, d4, d5, d6, d7, d8] => { results := [.lit (.bool false)], args := [d1, d2, d3, d4, d5, d6, d7, d8] }
  | _ => none }
def FnWithinUnderLeafwiseWrongFalsely : Prop := fnWithinUnderLeafwiseRow.holds Try.pinned (OpenSpec.ofChange fnWithinUnderLeafwiseWrong)

end Rows
end Go.Proofs.Qxb6605276a

/-
  No cell of these rows narrows 'for every input' (looked for: loops, veiled, ifaces, maps, wideKeys, modest, calm, conditions, laid).
  DERIVED. THE GIVEN ROWS OF THIS SEAT. 4 by the template 'for every input the law returns true; each argument reads behind the call as it read before'; 0 by the template 'total and deterministic' (their statements: Qxb6003775aTotals.lean).
  GIVEN WITH THE SEED: the statements are not yours to turn. If you find one false, say at which input.
  Laid BY PROGRAM, IN A SANDBOX (cutbox-rows.mjs): the forced cells as the released guide's own fill.sh prints them over the translation c0448310c7f5c2e9… (all of the seat's roots in one cut). By AI agents, Wed Nov 11 2026. No macro, syntax, notation, axiom, sorry.
-/
import Derived.Test.Qxb6003775aChecked
import GoSem.Claim
import GoSem.ClaimJoined
import GoSem.ClaimMapViews
import Derived.JoinedTies
import Derived.KernelRfl
namespace Go.Proofs.Qxb6003775a
/- THE CELL 'sum', in the pinned program and in every row, IS THE sha256 OF THE DUMP (.gsa) THAT Qxb6003775aProg.lean LOADS. Nothing in Lean hashes anything: it is a label: what it is worth is what the hold of that sum in a sandbox is worth. -/
noncomputable def Try.pinned : Pinned := { name := "qxb6003775a", sum := "c0448310c7f5c2e92f95b9c208998c66ff8c901187f46a5177b1d9d46dfcc873", checked := Try.checked }
namespace Rows
def none {H : Type} : Left H := { results := [], args := [] }

/-- 'zzlaws_internal_tangle_g1.FnIndexEOLIsFirstTerminator': WHATEVER THE INPUT: true; the input reads as it did. -/
def fnIndexEOLIsFirstTerminatorSpec : ChangeSpec := { name := "fnIndexEOLIsFirstTerminator", fn := fun _ => fun
  | [d1, d2] => { results := [.lit (.bool true)], args := [d1, d2] }
  | _ => none }
def fnIndexEOLIsFirstTerminatorRow : OpenClaim := { program := "qxb6003775a", sum := "c0448310c7f5c2e92f95b9c208998c66ff8c901187f46a5177b1d9d46dfcc873", func := "example.com/exact-tangle/exact-tangle/zzlaws_internal_tangle_g1.FnIndexEOLIsFirstTerminator", spec := "fnIndexEOLIsFirstTerminator", inPlace := ["internal/bytealg.IndexByte"], apart := false }
def FnIndexEOLIsFirstTerminatorSaid : Prop := fnIndexEOLIsFirstTerminatorRow.holds Try.pinned (OpenSpec.ofChange fnIndexEOLIsFirstTerminatorSpec)

/-- ITS FALSE NEIGHBOUR: 'it returns false'. Refute it at one input. -/
def fnIndexEOLIsFirstTerminatorWrong : ChangeSpec := { name := "fnIndexEOLIsFirstTerminator", fn := fun _ => fun
  | [d1, d2] => { results := [.lit (.bool false)], args := [d1, d2] }
  | _ => none }
def FnIndexEOLIsFirstTerminatorWrongFalsely : Prop := fnIndexEOLIsFirstTerminatorRow.holds Try.pinned (OpenSpec.ofChange fnIndexEOLIsFirstTerminatorWrong)

/-- 'zzlaws_internal_tangle_g1.FnEndsAtCRIffLoneCR': WHATEVER THE INPUT: true; the input reads as it did. -/
def fnEndsAtCRIffLoneCRSpec : ChangeSpec := { name := "fnEndsAtCRIffLoneCR", fn := fun _ => fun
  | [d1, d2] => { results := [.lit (.bool true)], args := [d1, d2] }
  | _ => none }
def fnEndsAtCRIffLoneCRRow : OpenClaim := { program := "qxb6003775a", sum := "c0448310c7f5c2e92f95b9c208998c66ff8c901187f46a5177b1d9d46dfcc873", func := "example.com/exact-tangle/exact-tangle/zzlaws_internal_tangle_g1.FnEndsAtCRIffLoneCR", spec := "fnEndsAtCRIffLoneCR", inPlace := ["internal/bytealg.IndexByte"], apart := false }
def FnEndsAtCRIffLoneCRSaid : Prop := fnEndsAtCRIffLoneCRRow.holds Try.pinned (OpenSpec.ofChange fnEndsAtCRIffLoneCRSpec)

/-- ITS FALSE NEIGHBOUR: 'it returns false'. Refute it at one input. -/
def fnEndsAtCRIffLoneCRWrong : ChangeSpec := { name := "fnEndsAtCRIffLoneCR", fn := fun _ => fun
  | [d1, d2] => { results := [.lit (.bool false)], args := [d1, d2] }
  | _ => none }
def FnEndsAtCRIffLoneCRWrongFalsely : Prop := fnEndsAtCRIffLoneCRRow.holds Try.pinned (OpenSpec.ofChange fnEndsAtCRIffLoneCRWrong)

/-- 'zzlaws_internal_tangle_g1.FnEndsAtCRKeepsLines': WHATEVER THE INPUT: true; the input reads as it did. -/
def fnEndsAtCRKeepsLinesSpec : ChangeSpec := { name := "fnEndsAtCRKeepsLines", fn := fun _ => fun
  | [d] => { results := [.lit (.bool true)], args := [d] }
  | _ => none }
def fnEndsAtCRKeepsLinesRow : OpenClaim := { program := "qxb6003775a", sum := "c0448310c7f5c2e92f95b9c208998c66ff8c901187f46a5177b1d9d46dfcc873", func := "example.com/exact-tangle/exact-tangle/zzlaws_internal_tangle_g1.FnEndsAtCRKeepsLines", spec := "fnEndsAtCRKeepsLines", inPlace := ["internal/bytealg.IndexByte"], apart := false }
def FnEndsAtCRKeepsLinesSaid : Prop := fnEndsAtCRKeepsLinesRow.holds Try.pinned (OpenSpec.ofChange fnEndsAtCRKeepsLinesSpec)

/-- ITS FALSE NEIGHBOUR: 'it returns false'. Refute it at one input. -/
def fnEndsAtCRKeepsLinesWrong : ChangeSpec := { name := "fnEndsAtCRKeepsLines", fn := fun _ => fun
  | [d] => { results := [.lit (.bool false)], args := [d] }
  | _ => none }
def FnEndsAtCRKeepsLinesWrongFalsely : Prop := fnEndsAtCRKeepsLinesRow.holds Try.pinned (OpenSpec.ofChange fnEndsAtCRKeepsLinesWrong)

/-- 'zzlaws_internal_tangle_g1.FnLinesSplitAtTerminators': WHATEVER THE INPUT: true; the input reads as it did. -/
def fnLinesSplitAtTerminatorsSpec : ChangeSpec := { name := "fnLinesSplitAtTerminators", fn := fun _ => fun
  | [d1, d2] => { results := [.lit (.bool true)], args := [d1, d2] }
  | _ => none }
def fnLinesSplitAtTerminatorsRow : OpenClaim := { program := "qxb6003775a", sum := "c0448310c7f5c2e92f95b9c208998c66ff8c901187f46a5177b1d9d46dfcc873", func := "example.com/exact-tangle/exact-tangle/zzlaws_internal_tangle_g1.FnLinesSplitAtTerminators", spec := "fnLinesSplitAtTerminators", inPlace := ["internal/bytealg.IndexByte"], apart := false }
def FnLinesSplitAtTerminatorsSaid : Prop := fnLinesSplitAtTerminatorsRow.holds Try.pinned (OpenSpec.ofChange fnLinesSplitAtTerminatorsSpec)

/-- ITS FALSE NEIGHBOUR: 'it returns false'. Refute it at one input. -/
def fnLinesSplitAtTerminatorsWrong : ChangeSpec := { name := "fnLinesSplitAtTerminators", fn := fun _ => fun
  | [d1, d2] => { results := [.lit (.bool false)], args := [d1, d2] }
  | _ => none }
def FnLinesSplitAtTerminatorsWrongFalsely : Prop := fnLinesSplitAtTerminatorsRow.holds Try.pinned (OpenSpec.ofChange fnLinesSplitAtTerminatorsWrong)

end Rows
end Go.Proofs.Qxb6003775a

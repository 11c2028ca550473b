/-
  No cell of these rows narrows 'for every input' (looked for: loops, veiled, ifaces, maps, wideKeys, modest, calm, conditions, laid).
  DERIVED. THE GIVEN ROWS OF THIS SEAT. 2 by the template 'for every input the law returns true; each argument reads behind the call as it read before'; 0 by the template 'total and deterministic' (their statements: Qxb6618555aTotals.lean).
  GIVEN WITH THE SEED: the statements are not yours to turn. If you find one false, say at which input.
  Laid BY PROGRAM, IN A SANDBOX (cutbox-rows.mjs): the forced cells as the released guide's own fill.sh prints them over the translation 0653769a1a2ef489… (all of the seat's roots in one cut). By AI agents, Wed Nov 11 2026. No macro, syntax, notation, axiom, sorry.
-/
import Derived.Test.Qxb6618555aChecked
import GoSem.Claim
import GoSem.ClaimJoined
import GoSem.ClaimMapViews
import Derived.JoinedTies
import Derived.KernelRfl
namespace Go.Proofs.Qxb6618555a
/- THE CELL 'sum', in the pinned program and in every row, IS THE sha256 OF THE DUMP (.gsa) THAT Qxb6618555aProg.lean LOADS. Nothing in Lean hashes anything: it is a label: what it is worth is what the hold of that sum in a sandbox is worth. -/
noncomputable def Try.pinned : Pinned := { name := "qxb6618555a", sum := "0653769a1a2ef489a197c7658c30ef4ebb47b85980cb324fac068ac7c212a179", checked := Try.checked }
namespace Rows
def none {H : Type} : Left H := { results := [], args := [] }

/-- 'zzlaws_chained_b1.FnKeepCertKeepsFirstHighest': WHATEVER THE INPUT: true; the input reads as it did. -/
def fnKeepCertKeepsFirstHighestSpec : ChangeSpec := { name := "fnKeepCertKeepsFirstHighest", fn := fun _ => fun
  | [d1, d2] => { results := [.lit (.bool true)], args := [d1, d2] }
  | _ => none }
def fnKeepCertKeepsFirstHighestRow : OpenClaim := { program := "qxb6618555a", sum := "0653769a1a2ef489a197c7658c30ef4ebb47b85980cb324fac068ac7c212a179", func := "example.com/faultline/faultline/zzlaws_chained_b1.FnKeepCertKeepsFirstHighest", spec := "fnKeepCertKeepsFirstHighest", recurses := true, apart := false }
def FnKeepCertKeepsFirstHighestSaid : Prop := fnKeepCertKeepsFirstHighestRow.holds Try.pinned (OpenSpec.ofChange fnKeepCertKeepsFirstHighestSpec)

/-- ITS FALSE NEIGHBOUR: 'it returns false'. Refute it at one input. -/
def fnKeepCertKeepsFirstHighestWrong : ChangeSpec := { name := "fnKeepCertKeepsFirstHighest", fn := fun _ => fun
  | [d1, d2] => { results := [.lit (.bool false)], args := [d1, d2] }
  | _ => none }
def FnKeepCertKeepsFirstHighestWrongFalsely : Prop := fnKeepCertKeepsFirstHighestRow.holds Try.pinned (OpenSpec.ofChange fnKeepCertKeepsFirstHighestWrong)

/-- 'zzlaws_chained_b1.FnKeepCertHeightIsOrderFree': WHATEVER THE INPUT: true; the input reads as it did. -/
def fnKeepCertHeightIsOrderFreeSpec : ChangeSpec := { name := "fnKeepCertHeightIsOrderFree", fn := fun _ => fun
  | [d1, d2] => { results := [.lit (.bool true)], args := [d1, d2] }
  | _ => none }
def fnKeepCertHeightIsOrderFreeRow : OpenClaim := { program := "qxb6618555a", sum := "0653769a1a2ef489a197c7658c30ef4ebb47b85980cb324fac068ac7c212a179", func := "example.com/faultline/faultline/zzlaws_chained_b1.FnKeepCertHeightIsOrderFree", spec := "fnKeepCertHeightIsOrderFree", recurses := true, apart := false }
def FnKeepCertHeightIsOrderFreeSaid : Prop := fnKeepCertHeightIsOrderFreeRow.holds Try.pinned (OpenSpec.ofChange fnKeepCertHeightIsOrderFreeSpec)

/-- ITS FALSE NEIGHBOUR: 'it returns false'. Refute it at one input. -/
def fnKeepCertHeightIsOrderFreeWrong : ChangeSpec := { name := "fnKeepCertHeightIsOrderFree", fn := fun _ => fun
  | [d1, d2] => { results := [.lit (.bool false)], args := [d1, d2] }
  | _ => none }
def FnKeepCertHeightIsOrderFreeWrongFalsely : Prop := fnKeepCertHeightIsOrderFreeRow.holds Try.pinned (OpenSpec.ofChange fnKeepCertHeightIsOrderFreeWrong)

end Rows
end Go.Proofs.Qxb6618555a

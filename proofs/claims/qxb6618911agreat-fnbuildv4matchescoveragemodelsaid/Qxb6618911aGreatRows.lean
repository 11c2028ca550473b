/-
  No cell of these rows narrows 'for every input' (looked for: loops, veiled, ifaces, maps, wideKeys, modest, calm, conditions, laid).
  DERIVED. THE GIVEN ROWS OF THIS SEAT. 2 by the template 'for every input the law returns true; each argument reads behind the call as it read before'; 0 by the template 'total and deterministic' (their statements: Qxb6618911aGreatTotals.lean).
  GIVEN WITH THE SEED: the statements are not yours to turn. If you find one false, say at which input.
  Laid BY PROGRAM, IN A SANDBOX (cutbox-rows.mjs): the forced cells as the released guide's own fill.sh prints them over the translation 59463e10129af35e… (all of the seat's roots in one cut). By AI agents, Wed Nov 11 2026. No macro, syntax, notation, axiom, sorry.
-/
import Derived.Test.Qxb6618911aGreatChecked
import GoSem.Claim
import GoSem.ClaimJoined
import GoSem.ClaimMapViews
import Derived.JoinedTies
import Derived.KernelRfl
namespace Go.Proofs.Qxb6618911aGreat
/- THE CELL 'sum', in the pinned program and in every row, IS THE sha256 OF THE DUMP (.gsa) THAT Qxb6618911aGreatProg.lean LOADS. Nothing in Lean hashes anything: it is a label: what it is worth is what the hold of that sum in a sandbox is worth. -/
noncomputable def Tryz.pinned : Pinned := { name := "qxb6618911agreat", sum := "59463e10129af35e098374117ec440ab1aff0b4a08cbae57b22712196eba4b99", checked := Tryz.checked }
namespace Rows
def none {H : Type} : Left H := { results := [], args := [] }

/-- 'zzlaws_ipindex_b1.FnBuildV4MatchesCoverageModel': WHATEVER THE INPUT: true; the input reads as it did. -/
def fnBuildV4MatchesCoverageModelSpec : ChangeSpec := { name := "fnBuildV4MatchesCoverageModel", fn := fun _ => fun
  | [d1, d2, d3, d4] => { results := [.lit (.bool true)], args := [d1, d2, d3, d4] }
  | _ => none }
def fnBuildV4MatchesCoverageModelRow : OpenClaim := { program := "qxb6618911agreat", sum := "59463e10129af35e098374117ec440ab1aff0b4a08cbae57b22712196eba4b99", func := "example.com/portcullis/portcullis/zzlaws_ipindex_b1.FnBuildV4MatchesCoverageModel", spec := "fnBuildV4MatchesCoverageModel", inPlace := ["slices.overlaps[int32]"], unfollowed := true, recurses := true, named := ["encoding/binary.LittleEndian"], apart := false }
def FnBuildV4MatchesCoverageModelSaid : Prop := fnBuildV4MatchesCoverageModelRow.holds Tryz.pinned (OpenSpec.ofChange fnBuildV4MatchesCoverageModelSpec)

/-- ITS FALSE NEIGHBOUR: 'it returns false'. Refute it at one input. -/
def fnBuildV4MatchesCoverageModelWrong : ChangeSpec := { name := "fnBuildV4MatchesCoverageModel", fn := fun _ => fun
  | [d1, d2, d3, d4] => { results := [.lit (.bool false)], args := [d1, d2, d3, d4] }
  | _ => none }
def FnBuildV4MatchesCoverageModelWrongFalsely : Prop := fnBuildV4MatchesCoverageModelRow.holds Tryz.pinned (OpenSpec.ofChange fnBuildV4MatchesCoverageModelWrong)

/-- 'zzlaws_ipindex_b1.FnBuildV4OrderFreeAndResets': WHATEVER THE INPUT: true; the input reads as it did. -/
def fnBuildV4OrderFreeAndResetsSpec : ChangeSpec := { name := "fnBuildV4OrderFreeAndResets", fn := fun _ => fun
  | [d1, d2, d3, d4, d5] => { results := [.lit (.bool true)], args := [d1, d2, d3, d4, d5] }
  | _ => none }
def fnBuildV4OrderFreeAndResetsRow : OpenClaim := { program := "qxb6618911agreat", sum := "59463e10129af35e098374117ec440ab1aff0b4a08cbae57b22712196eba4b99", func := "example.com/portcullis/portcullis/zzlaws_ipindex_b1.FnBuildV4OrderFreeAndResets", spec := "fnBuildV4OrderFreeAndResets", inPlace := ["slices.overlaps[int32]"], unfollowed := true, recurses := true, named := ["encoding/binary.LittleEndian"], apart := false }
def FnBuildV4OrderFreeAndResetsSaid : Prop := fnBuildV4OrderFreeAndResetsRow.holds Tryz.pinned (OpenSpec.ofChange fnBuildV4OrderFreeAndResetsSpec)

/-- ITS FALSE NEIGHBOUR: 'it returns false'. Refute it at one input. -/
def fnBuildV4OrderFreeAndResetsWrong : ChangeSpec := { name := "fnBuildV4OrderFreeAndResets", fn := fun _ => fun
  | [d1, d2, d3, d4, d5] => { results := [.lit (.bool false)], args := [d1, d2, d3, d4, d5] }
  | _ => none }
def FnBuildV4OrderFreeAndResetsWrongFalsely : Prop := fnBuildV4OrderFreeAndResetsRow.holds Tryz.pinned (OpenSpec.ofChange fnBuildV4OrderFreeAndResetsWrong)

end Rows
end Go.Proofs.Qxb6618911aGreat

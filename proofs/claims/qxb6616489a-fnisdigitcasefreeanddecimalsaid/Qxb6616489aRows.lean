/-
  No cell of these rows narrows 'for every input' (looked for: loops, veiled, ifaces, maps, wideKeys, modest, calm, conditions, laid).
  DERIVED. THE GIVEN ROWS OF THIS SEAT. 6 by the template 'for every input the law returns true; each argument reads behind the call as it read before'; 0 by the template 'total and deterministic' (their statements: Qxb6616489aTotals.lean).
  GIVEN WITH THE SEED: the statements are not yours to turn. If you find one false, say at which input.
  Laid BY PROGRAM, IN A SANDBOX (cutbox-rows.mjs): the forced cells as the released guide's own fill.sh prints them over the translation 6a9568f4150a362a… (all of the seat's roots in one cut). By AI agents, Wed Nov 11 2026. No macro, syntax, notation, axiom, sorry.
-/
import Derived.Test.Qxb6616489aChecked
import GoSem.Claim
import GoSem.ClaimJoined
import GoSem.ClaimMapViews
import Derived.JoinedTies
import Derived.KernelRfl
namespace Go.Proofs.Qxb6616489a
/- THE CELL 'sum', in the pinned program and in every row, IS THE sha256 OF THE DUMP (.gsa) THAT Qxb6616489aProg.lean LOADS. Nothing in Lean hashes anything: it is a label: what it is worth is what the hold of that sum in a sandbox is worth. -/
noncomputable def Try.pinned : Pinned := { name := "qxb6616489a", sum := "6a9568f4150a362a7f653246704e4c28c4f3f5ab587c5126f898271d5b610cd1", checked := Try.checked }
namespace Rows
def none {H : Type} : Left H := { results := [], args := [] }

/-- 'zzlaws_dns_b1.FnIsDigitCaseFreeAndDecimal': WHATEVER THE INPUT: true; the input reads as it did. -/
def fnIsDigitCaseFreeAndDecimalSpec : ChangeSpec := { name := "fnIsDigitCaseFreeAndDecimal", fn := fun _ => fun
  | [d] => { results := [.lit (.bool true)], args := [d] }
  | _ => none }
def fnIsDigitCaseFreeAndDecimalRow : OpenClaim := { program := "qxb6616489a", sum := "6a9568f4150a362a7f653246704e4c28c4f3f5ab587c5126f898271d5b610cd1", func := "example.com/zonewright/zonewright/zzlaws_dns_b1.FnIsDigitCaseFreeAndDecimal", spec := "fnIsDigitCaseFreeAndDecimal", apart := false }
def FnIsDigitCaseFreeAndDecimalSaid : Prop := fnIsDigitCaseFreeAndDecimalRow.holds Try.pinned (OpenSpec.ofChange fnIsDigitCaseFreeAndDecimalSpec)

/-- ITS FALSE NEIGHBOUR: 'it returns false'. Refute it at one input. -/
def fnIsDigitCaseFreeAndDecimalWrong : ChangeSpec := { name := "fnIsDigitCaseFreeAndDecimal", fn := fun _ => fun
  | [d] => { results := [.lit (.bool false)], args := [d] }
  | _ => none }
def FnIsDigitCaseFreeAndDecimalWrongFalsely : Prop := fnIsDigitCaseFreeAndDecimalRow.holds Try.pinned (OpenSpec.ofChange fnIsDigitCaseFreeAndDecimalWrong)

/-- 'zzlaws_dns_b1.FnIsDigitTenConsecutiveFromZero': WHATEVER THE INPUT: true; the input reads as it did. -/
def fnIsDigitTenConsecutiveFromZeroSpec : ChangeSpec := { name := "fnIsDigitTenConsecutiveFromZero", fn := fun _ => fun
  | [d] => { results := [.lit (.bool true)], args := [d] }
  | _ => none }
def fnIsDigitTenConsecutiveFromZeroRow : OpenClaim := { program := "qxb6616489a", sum := "6a9568f4150a362a7f653246704e4c28c4f3f5ab587c5126f898271d5b610cd1", func := "example.com/zonewright/zonewright/zzlaws_dns_b1.FnIsDigitTenConsecutiveFromZero", spec := "fnIsDigitTenConsecutiveFromZero", apart := false }
def FnIsDigitTenConsecutiveFromZeroSaid : Prop := fnIsDigitTenConsecutiveFromZeroRow.holds Try.pinned (OpenSpec.ofChange fnIsDigitTenConsecutiveFromZeroSpec)

/-- ITS FALSE NEIGHBOUR: 'it returns false'. Refute it at one input. -/
def fnIsDigitTenConsecutiveFromZeroWrong : ChangeSpec := { name := "fnIsDigitTenConsecutiveFromZero", fn := fun _ => fun
  | [d] => { results := [.lit (.bool false)], args := [d] }
  | _ => none }
def FnIsDigitTenConsecutiveFromZeroWrongFalsely : Prop := fnIsDigitTenConsecutiveFromZeroRow.holds Try.pinned (OpenSpec.ofChange fnIsDigitTenConsecutiveFromZeroWrong)

/-- 'zzlaws_dns_b1.FnCompareNamesCanonicalOrder': WHATEVER THE INPUT: true; the input reads as it did. -/
def fnCompareNamesCanonicalOrderSpec : ChangeSpec := { name := "fnCompareNamesCanonicalOrder", fn := fun _ => fun
  | [d1, d2] => { results := [.lit (.bool true)], args := [d1, d2] }
  | _ => none }
def fnCompareNamesCanonicalOrderRow : OpenClaim := { program := "qxb6616489a", sum := "6a9568f4150a362a7f653246704e4c28c4f3f5ab587c5126f898271d5b610cd1", func := "example.com/zonewright/zonewright/zzlaws_dns_b1.FnCompareNamesCanonicalOrder", spec := "fnCompareNamesCanonicalOrder", inPlace := ["internal/bytealg.Compare"], apart := false }
def FnCompareNamesCanonicalOrderSaid : Prop := fnCompareNamesCanonicalOrderRow.holds Try.pinned (OpenSpec.ofChange fnCompareNamesCanonicalOrderSpec)

/-- ITS FALSE NEIGHBOUR: 'it returns false'. Refute it at one input. -/
def fnCompareNamesCanonicalOrderWrong : ChangeSpec := { name := "fnCompareNamesCanonicalOrder", fn := fun _ => fun
  | [d1, d2] => { results := [.lit (.bool false)], args := [d1, d2] }
  | _ => none }
def FnCompareNamesCanonicalOrderWrongFalsely : Prop := fnCompareNamesCanonicalOrderRow.holds Try.pinned (OpenSpec.ofChange fnCompareNamesCanonicalOrderWrong)

/-- 'zzlaws_dns_b1.FnCompareNamesAntisymmetricCaseBlindAncestorFirst': WHATEVER THE INPUT: true; the input reads as it did. -/
def fnCompareNamesAntisymmetricCaseBlindAncestorFirstSpec : ChangeSpec := { name := "fnCompareNamesAntisymmetricCaseBlindAncestorFirst", fn := fun _ => fun
  | [d1, d2, d3] => { results := [.lit (.bool true)], args := [d1, d2, d3] }
  | _ => none }
def fnCompareNamesAntisymmetricCaseBlindAncestorFirstRow : OpenClaim := { program := "qxb6616489a", sum := "6a9568f4150a362a7f653246704e4c28c4f3f5ab587c5126f898271d5b610cd1", func := "example.com/zonewright/zonewright/zzlaws_dns_b1.FnCompareNamesAntisymmetricCaseBlindAncestorFirst", spec := "fnCompareNamesAntisymmetricCaseBlindAncestorFirst", inPlace := ["internal/bytealg.Compare"], apart := false }
def FnCompareNamesAntisymmetricCaseBlindAncestorFirstSaid : Prop := fnCompareNamesAntisymmetricCaseBlindAncestorFirstRow.holds Try.pinned (OpenSpec.ofChange fnCompareNamesAntisymmetricCaseBlindAncestorFirstSpec)

/-- ITS FALSE NEIGHBOUR: 'it returns false'. Refute it at one input. -/
def fnCompareNamesAntisymmetricCaseBlindAncestorFirstWrong : ChangeSpec := { name := "fnCompareNamesAntisymmetricCaseBlindAncestorFirst", fn := fun _ => fun
  | [d1, d2, d3] => { results := [.lit (.bool false)], args := [d1, d2, d3] }
  | _ => none }
def FnCompareNamesAntisymmetricCaseBlindAncestorFirstWrongFalsely : Prop := fnCompareNamesAntisymmetricCaseBlindAncestorFirstRow.holds Try.pinned (OpenSpec.ofChange fnCompareNamesAntisymmetricCaseBlindAncestorFirstWrong)

/-- 'zzlaws_dns_b1.FnHeldSizeAddsOverAnyCut': WHATEVER THE INPUT: true; the input reads as it did. -/
def fnHeldSizeAddsOverAnyCutSpec : ChangeSpec := { name := "fnHeldSizeAddsOverAnyCut", fn := fun _ => fun
  | [d1, d2, d3, d4, d5, d6, d7] => { results := [.lit (.bool true)], args := [d1, d2, d3, d4, d5, d6, d7] }
  | _ => none }
def fnHeldSizeAddsOverAnyCutRow : OpenClaim := { program := "qxb6616489a", sum := "6a9568f4150a362a7f653246704e4c28c4f3f5ab587c5126f898271d5b610cd1", func := "example.com/zonewright/zonewright/zzlaws_dns_b1.FnHeldSizeAddsOverAnyCut", spec := "fnHeldSizeAddsOverAnyCut", apart := false }
def FnHeldSizeAddsOverAnyCutSaid : Prop := fnHeldSizeAddsOverAnyCutRow.holds Try.pinned (OpenSpec.ofChange fnHeldSizeAddsOverAnyCutSpec)

/-- ITS FALSE NEIGHBOUR: 'it returns false'. Refute it at one input. -/
def fnHeldSizeAddsOverAnyCutWrong : ChangeSpec := { name := "fnHeldSizeAddsOverAnyCut", fn := fun _ => fun
  | [d1, d2, d3, d4, d5, d6, d7] => { results := [.lit (.bool false)], args := [d1, d2, d3, d4, d5, d6, d7] }
  | _ => none }
def FnHeldSizeAddsOverAnyCutWrongFalsely : Prop := fnHeldSizeAddsOverAnyCutRow.holds Try.pinned (OpenSpec.ofChange fnHeldSizeAddsOverAnyCutWrong)

/-- 'zzlaws_dns_b1.FnHeldSizeOverheadSameForEveryRecord': WHATEVER THE INPUT: true; the input reads as it did. -/
def fnHeldSizeOverheadSameForEveryRecordSpec : ChangeSpec := { name := "fnHeldSizeOverheadSameForEveryRecord", fn := fun _ => fun
  | [d1, d2, d3, d4, d5, d6, d7, d8, d9, d10] => { results := [.lit (.bool true)], args := [d1, d2, d3, d4, d5, d6, d7, d8, d9, d10] }
  | _ => none }
def fnHeldSizeOverheadSameForEveryRecordRow : OpenClaim := { program := "qxb6616489a", sum := "6a9568f4150a362a7f653246704e4c28c4f3f5ab587c5126f898271d5b610cd1", func := "example.com/zonewright/zonewright/zzlaws_dns_b1.FnHeldSizeOverheadSameForEveryRecord", spec := "fnHeldSizeOverheadSameForEveryRecord", apart := false }
def FnHeldSizeOverheadSameForEveryRecordSaid : Prop := fnHeldSizeOverheadSameForEveryRecordRow.holds Try.pinned (OpenSpec.ofChange fnHeldSizeOverheadSameForEveryRecordSpec)

/-- ITS FALSE NEIGHBOUR: 'it returns false'. Refute it at one input. -/
def fnHeldSizeOverheadSameForEveryRecordWrong : ChangeSpec := { name := "fnHeldSizeOverheadSameForEveryRecord", fn := fun _ => fun
  | [d1, d2, d3, d4, d5, d6, d7, d8, d9, d10] => { results := [.lit (.bool false)], args := [d1, d2, d3, d4, d5, d6, d7, d8, d9, d10] }
  | _ => none }
def FnHeldSizeOverheadSameForEveryRecordWrongFalsely : Prop := fnHeldSizeOverheadSameForEveryRecordRow.holds Try.pinned (OpenSpec.ofChange fnHeldSizeOverheadSameForEveryRecordWrong)

end Rows
end Go.Proofs.Qxb6616489a

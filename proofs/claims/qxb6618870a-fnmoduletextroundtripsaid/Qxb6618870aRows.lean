/-
  No cell of these rows narrows 'for every input' (looked for: loops, veiled, ifaces, maps, wideKeys, modest, calm, conditions, laid).
  DERIVED. THE GIVEN ROWS OF THIS SEAT. 4 by the template 'for every input the law returns true; each argument reads behind the call as it read before'; 0 by the template 'total and deterministic' (their statements: Qxb6618870aTotals.lean).
  GIVEN WITH THE SEED: the statements are not yours to turn. If you find one false, say at which input.
  Laid BY PROGRAM, IN A SANDBOX (cutbox-rows.mjs): the forced cells as the released guide's own fill.sh prints them over the translation 3cd3624b630cb985… (all of the seat's roots in one cut). By AI agents, Wed Nov 11 2026. No macro, syntax, notation, axiom, sorry.
-/
import Derived.Test.Qxb6618870aChecked
import GoSem.Claim
import GoSem.ClaimJoined
import GoSem.ClaimMapViews
import Derived.JoinedTies
import Derived.KernelRfl
namespace Go.Proofs.Qxb6618870a
/- THE CELL 'sum', in the pinned program and in every row, IS THE sha256 OF THE DUMP (.gsa) THAT Qxb6618870aProg.lean LOADS. Nothing in Lean hashes anything: it is a label: what it is worth is what the hold of that sum in a sandbox is worth. -/
noncomputable def Try.pinned : Pinned := { name := "qxb6618870a", sum := "3cd3624b630cb9850f83e04b2f36cb27ca7a82d98563957ecbceaf0dbc5e9d35", checked := Try.checked }
namespace Rows
def none {H : Type} : Left H := { results := [], args := [] }

/-- 'zzlaws_xpath_b1.FnIsSpaceFourXMLSpaceBytes': WHATEVER THE INPUT: true; the input reads as it did. -/
def fnIsSpaceFourXMLSpaceBytesSpec : ChangeSpec := { name := "fnIsSpaceFourXMLSpaceBytes", fn := fun _ => fun
  | [d] => { results := [.lit (.bool true)], args := [d] }
  | _ => none }
def fnIsSpaceFourXMLSpaceBytesRow : OpenClaim := { program := "qxb6618870a", sum := "3cd3624b630cb9850f83e04b2f36cb27ca7a82d98563957ecbceaf0dbc5e9d35", func := "example.com/yangstream/yangstream/zzlaws_xpath_b1.FnIsSpaceFourXMLSpaceBytes", spec := "fnIsSpaceFourXMLSpaceBytes", apart := false }
def FnIsSpaceFourXMLSpaceBytesSaid : Prop := fnIsSpaceFourXMLSpaceBytesRow.holds Try.pinned (OpenSpec.ofChange fnIsSpaceFourXMLSpaceBytesSpec)

/-- ITS FALSE NEIGHBOUR: 'it returns false'. Refute it at one input. -/
def fnIsSpaceFourXMLSpaceBytesWrong : ChangeSpec := { name := "fnIsSpaceFourXMLSpaceBytes", fn := fun _ => fun
  | [d] => { results := [.lit (.bool false)], args := [d] }
  | _ => none }
def FnIsSpaceFourXMLSpaceBytesWrongFalsely : Prop := fnIsSpaceFourXMLSpaceBytesRow.holds Try.pinned (OpenSpec.ofChange fnIsSpaceFourXMLSpaceBytesWrong)

/-- 'zzlaws_xpath_b1.FnLiteralTypeHangsOnKindAlone': WHATEVER THE INPUT: true; the input reads as it did. -/
def fnLiteralTypeHangsOnKindAloneSpec : ChangeSpec := { name := "fnLiteralTypeHangsOnKindAlone", fn := fun _ => fun
  | [d1, d2, d3, d4, d5, d6] => { results := [.lit (.bool true)], args := [d1, d2, d3, d4, d5, d6] }
  | _ => none }
def fnLiteralTypeHangsOnKindAloneRow : OpenClaim := { program := "qxb6618870a", sum := "3cd3624b630cb9850f83e04b2f36cb27ca7a82d98563957ecbceaf0dbc5e9d35", func := "example.com/yangstream/yangstream/zzlaws_xpath_b1.FnLiteralTypeHangsOnKindAlone", spec := "fnLiteralTypeHangsOnKindAlone", apart := false }
def FnLiteralTypeHangsOnKindAloneSaid : Prop := fnLiteralTypeHangsOnKindAloneRow.holds Try.pinned (OpenSpec.ofChange fnLiteralTypeHangsOnKindAloneSpec)

/-- ITS FALSE NEIGHBOUR: 'it returns false'. Refute it at one input. -/
def fnLiteralTypeHangsOnKindAloneWrong : ChangeSpec := { name := "fnLiteralTypeHangsOnKindAlone", fn := fun _ => fun
  | [d1, d2, d3, d4, d5, d6] => { results := [.lit (.bool false)], args := [d1, d2, d3, d4, d5, d6] }
  | _ => none }
def FnLiteralTypeHangsOnKindAloneWrongFalsely : Prop := fnLiteralTypeHangsOnKindAloneRow.holds Try.pinned (OpenSpec.ofChange fnLiteralTypeHangsOnKindAloneWrong)

/-- 'zzlaws_xpath_b1.FnModuleTextOfSelfPrefixedIsString': WHATEVER THE INPUT: true; the input reads as it did. -/
def fnModuleTextOfSelfPrefixedIsStringSpec : ChangeSpec := { name := "fnModuleTextOfSelfPrefixedIsString", fn := fun _ => fun
  | [d1, d2, d3] => { results := [.lit (.bool true)], args := [d1, d2, d3] }
  | _ => none }
def fnModuleTextOfSelfPrefixedIsStringRow : OpenClaim := { program := "qxb6618870a", sum := "3cd3624b630cb9850f83e04b2f36cb27ca7a82d98563957ecbceaf0dbc5e9d35", func := "example.com/yangstream/yangstream/zzlaws_xpath_b1.FnModuleTextOfSelfPrefixedIsString", spec := "fnModuleTextOfSelfPrefixedIsString", inPlace := ["internal/abi.NoEscape"], apart := false }
def FnModuleTextOfSelfPrefixedIsStringSaid : Prop := fnModuleTextOfSelfPrefixedIsStringRow.holds Try.pinned (OpenSpec.ofChange fnModuleTextOfSelfPrefixedIsStringSpec)

/-- ITS FALSE NEIGHBOUR: 'it returns false'. Refute it at one input. -/
def fnModuleTextOfSelfPrefixedIsStringWrong : ChangeSpec := { name := "fnModuleTextOfSelfPrefixedIsString", fn := fun _ => fun
  | [d1, d2, d3] => { results := [.lit (.bool false)], args := [d1, d2, d3] }
  | _ => none }
def FnModuleTextOfSelfPrefixedIsStringWrongFalsely : Prop := fnModuleTextOfSelfPrefixedIsStringRow.holds Try.pinned (OpenSpec.ofChange fnModuleTextOfSelfPrefixedIsStringWrong)

/-- 'zzlaws_xpath_b1.FnModuleTextRoundTrip': WHATEVER THE INPUT: true; the input reads as it did. -/
def fnModuleTextRoundTripSpec : ChangeSpec := { name := "fnModuleTextRoundTrip", fn := fun _ => fun
  | [d1, d2, d3, d4] => { results := [.lit (.bool true)], args := [d1, d2, d3, d4] }
  | _ => none }
def fnModuleTextRoundTripRow : OpenClaim := { program := "qxb6618870a", sum := "3cd3624b630cb9850f83e04b2f36cb27ca7a82d98563957ecbceaf0dbc5e9d35", func := "example.com/yangstream/yangstream/zzlaws_xpath_b1.FnModuleTextRoundTrip", spec := "fnModuleTextRoundTrip", inPlace := ["internal/abi.NoEscape"], apart := false }
def FnModuleTextRoundTripSaid : Prop := fnModuleTextRoundTripRow.holds Try.pinned (OpenSpec.ofChange fnModuleTextRoundTripSpec)

/-- ITS FALSE NEIGHBOUR: 'it returns false'. Refute it at one input. -/
def fnModuleTextRoundTripWrong : ChangeSpec := { name := "fnModuleTextRoundTrip", fn := fun _ => fun
  | [d1, d2, d3, d4] => { results := [.lit (.bool false)], args := [d1, d2, d3, d4] }
  | _ => none }
def FnModuleTextRoundTripWrongFalsely : Prop := fnModuleTextRoundTripRow.holds Try.pinned (OpenSpec.ofChange fnModuleTextRoundTripWrong)

end Rows
end Go.Proofs.Qxb6618870a

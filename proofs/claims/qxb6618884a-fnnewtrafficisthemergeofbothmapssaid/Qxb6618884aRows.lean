/-
  No cell of these rows narrows 'for every input' (looked for: loops, veiled, ifaces, maps, wideKeys, modest, calm, conditions, laid).
  DERIVED. THE GIVEN ROWS OF THIS SEAT. 4 by the template 'for every input the law returns true; each argument reads behind the call as it read before'; 0 by the template 'total and deterministic' (their statements: Qxb6618884aTotals.lean).
  GIVEN WITH THE SEED: the statements are not yours to turn. If you find one false, say at which input.
  Laid BY PROGRAM, IN A SANDBOX (cutbox-rows.mjs): the forced cells as the released guide's own fill.sh prints them over the translation e6a6ec7824dab85d… (all of the seat's roots in one cut). By AI agents, Wed Nov 11 2026. No macro, syntax, notation, axiom, sorry.
-/
import Derived.Test.Qxb6618884aChecked
import GoSem.Claim
import GoSem.ClaimJoined
import GoSem.ClaimMapViews
import Derived.JoinedTies
import Derived.KernelRfl
namespace Go.Proofs.Qxb6618884a
/- THE CELL 'sum', in the pinned program and in every row, IS THE sha256 OF THE DUMP (.gsa) THAT Qxb6618884aProg.lean LOADS. Nothing in Lean hashes anything: it is a label: what it is worth is what the hold of that sum in a sandbox is worth. -/
noncomputable def Try.pinned : Pinned := { name := "qxb6618884a", sum := "e6a6ec7824dab85d7a6d1edc3154aa859fdbe41da456c2a7f6de2672bb758c2f", checked := Try.checked }
namespace Rows
def none {H : Type} : Left H := { results := [], args := [] }

/-- 'zzlaws_root_b1.FnSpanBitsLeastPowerAboveAndOddDoubling': WHATEVER THE INPUT: true; the input reads as it did. -/
def fnSpanBitsLeastPowerAboveAndOddDoublingSpec : ChangeSpec := { name := "fnSpanBitsLeastPowerAboveAndOddDoubling", fn := fun _ => fun
  | [d] => { results := [.lit (.bool true)], args := [d] }
  | _ => none }
def fnSpanBitsLeastPowerAboveAndOddDoublingRow : OpenClaim := { program := "qxb6618884a", sum := "e6a6ec7824dab85d7a6d1edc3154aa859fdbe41da456c2a7f6de2672bb758c2f", func := "example.com/strewn/strewn/zzlaws_root_b1.FnSpanBitsLeastPowerAboveAndOddDoubling", spec := "fnSpanBitsLeastPowerAboveAndOddDoubling", apart := false }
def FnSpanBitsLeastPowerAboveAndOddDoublingSaid : Prop := fnSpanBitsLeastPowerAboveAndOddDoublingRow.holds Try.pinned (OpenSpec.ofChange fnSpanBitsLeastPowerAboveAndOddDoublingSpec)

/-- ITS FALSE NEIGHBOUR: 'it returns false'. Refute it at one input. -/
def fnSpanBitsLeastPowerAboveAndOddDoublingWrong : ChangeSpec := { name := "fnSpanBitsLeastPowerAboveAndOddDoubling", fn := fun _ => fun
  | [d] => { results := [.lit (.bool false)], args := [d] }
  | _ => none }
def FnSpanBitsLeastPowerAboveAndOddDoublingWrongFalsely : Prop := fnSpanBitsLeastPowerAboveAndOddDoublingRow.holds Try.pinned (OpenSpec.ofChange fnSpanBitsLeastPowerAboveAndOddDoublingWrong)

/-- 'zzlaws_root_b1.FnSpanBitsEqualExactlyBelowThePower': WHATEVER THE INPUT: true; the input reads as it did. -/
def fnSpanBitsEqualExactlyBelowThePowerSpec : ChangeSpec := { name := "fnSpanBitsEqualExactlyBelowThePower", fn := fun _ => fun
  | [d1, d2] => { results := [.lit (.bool true)], args := [d1, d2] }
  | _ => none }
def fnSpanBitsEqualExactlyBelowThePowerRow : OpenClaim := { program := "qxb6618884a", sum := "e6a6ec7824dab85d7a6d1edc3154aa859fdbe41da456c2a7f6de2672bb758c2f", func := "example.com/strewn/strewn/zzlaws_root_b1.FnSpanBitsEqualExactlyBelowThePower", spec := "fnSpanBitsEqualExactlyBelowThePower", apart := false }
def FnSpanBitsEqualExactlyBelowThePowerSaid : Prop := fnSpanBitsEqualExactlyBelowThePowerRow.holds Try.pinned (OpenSpec.ofChange fnSpanBitsEqualExactlyBelowThePowerSpec)

/-- ITS FALSE NEIGHBOUR: 'it returns false'. Refute it at one input. -/
def fnSpanBitsEqualExactlyBelowThePowerWrong : ChangeSpec := { name := "fnSpanBitsEqualExactlyBelowThePower", fn := fun _ => fun
  | [d1, d2] => { results := [.lit (.bool false)], args := [d1, d2] }
  | _ => none }
def FnSpanBitsEqualExactlyBelowThePowerWrongFalsely : Prop := fnSpanBitsEqualExactlyBelowThePowerRow.holds Try.pinned (OpenSpec.ofChange fnSpanBitsEqualExactlyBelowThePowerWrong)

/-- 'zzlaws_root_b1.FnNewTrafficIsTheMergeOfBothMaps': WHATEVER THE INPUT: true; the input reads as it did. -/
def fnNewTrafficIsTheMergeOfBothMapsSpec : ChangeSpec := { name := "fnNewTrafficIsTheMergeOfBothMaps", fn := fun _ => fun
  | [d1, d2] => { results := [.lit (.bool true)], args := [d1, d2] }
  | _ => none }
def fnNewTrafficIsTheMergeOfBothMapsRow : OpenClaim := { program := "qxb6618884a", sum := "e6a6ec7824dab85d7a6d1edc3154aa859fdbe41da456c2a7f6de2672bb758c2f", func := "example.com/strewn/strewn/zzlaws_root_b1.FnNewTrafficIsTheMergeOfBothMaps", spec := "fnNewTrafficIsTheMergeOfBothMaps", inPlace := ["internal/bytealg.abigen_runtime_cmpstring"], unfollowed := true, recurses := true, apart := false }
def FnNewTrafficIsTheMergeOfBothMapsSaid : Prop := fnNewTrafficIsTheMergeOfBothMapsRow.holds Try.pinned (OpenSpec.ofChange fnNewTrafficIsTheMergeOfBothMapsSpec)

/-- ITS FALSE NEIGHBOUR: 'it returns false'. Refute it at one input. -/
def fnNewTrafficIsTheMergeOfBothMapsWrong : ChangeSpec := { name := "fnNewTrafficIsTheMergeOfBothMaps", fn := fun _ => fun
  | [d1, d2] => { results := [.lit (.bool false)], args := [d1, d2] }
  | _ => none }
def FnNewTrafficIsTheMergeOfBothMapsWrongFalsely : Prop := fnNewTrafficIsTheMergeOfBothMapsRow.holds Try.pinned (OpenSpec.ofChange fnNewTrafficIsTheMergeOfBothMapsWrong)

/-- 'zzlaws_root_b1.FnNewTrafficSwappedMirrorsRows': WHATEVER THE INPUT: true; the input reads as it did. -/
def fnNewTrafficSwappedMirrorsRowsSpec : ChangeSpec := { name := "fnNewTrafficSwappedMirrorsRows", fn := fun _ => fun
  | [d1, d2] => { results := [.lit (.bool true)], args := [d1, d2] }
  | _ => none }
def fnNewTrafficSwappedMirrorsRowsRow : OpenClaim := { program := "qxb6618884a", sum := "e6a6ec7824dab85d7a6d1edc3154aa859fdbe41da456c2a7f6de2672bb758c2f", func := "example.com/strewn/strewn/zzlaws_root_b1.FnNewTrafficSwappedMirrorsRows", spec := "fnNewTrafficSwappedMirrorsRows", inPlace := ["internal/bytealg.abigen_runtime_cmpstring"], unfollowed := true, recurses := true, apart := false }
def FnNewTrafficSwappedMirrorsRowsSaid : Prop := fnNewTrafficSwappedMirrorsRowsRow.holds Try.pinned (OpenSpec.ofChange fnNewTrafficSwappedMirrorsRowsSpec)

/-- ITS FALSE NEIGHBOUR: 'it returns false'. Refute it at one input. -/
def fnNewTrafficSwappedMirrorsRowsWrong : ChangeSpec := { name := "fnNewTrafficSwappedMirrorsRows", fn := fun _ => fun
  | [d1, d2] => { results := [.lit (.bool false)], args := [d1, d2] }
  | _ => none }
def FnNewTrafficSwappedMirrorsRowsWrongFalsely : Prop := fnNewTrafficSwappedMirrorsRowsRow.holds Try.pinned (OpenSpec.ofChange fnNewTrafficSwappedMirrorsRowsWrong)

end Rows
end Go.Proofs.Qxb6618884a

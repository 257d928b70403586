/-
  NARROWER THAN 'FOR EVERY INPUT', by the rows' own cells (each row's printed sentence says how): FnLabelKeyExact: maps · FnLabelKeyParsesBack: maps.
  DERIVED. THE GIVEN ROWS OF THIS SEAT. 6 by the template 'for every input the law returns true; each argument reads behind the call as it read before'; 0 by the template 'total and deterministic' (their statements: Qxb6603409aTotals.lean).
  GIVEN WITH THE SEED: the statements are not yours to turn. If you find one false, say at which input.
  Laid BY PROGRAM, IN A SANDBOX (cutbox-rows.mjs): the forced cells as the released guide's own fill.sh prints them over the translation 667cdc954dc58a08… (all of the seat's roots in one cut). By AI agents, Wed Nov 11 2026. No macro, syntax, notation, axiom, sorry.
-/
import Derived.Test.Qxb6603409aChecked
import GoSem.Claim
import GoSem.ClaimJoined
import GoSem.ClaimMapViews
import Derived.JoinedTies
import Derived.KernelRfl
namespace Go.Proofs.Qxb6603409a
/- THE CELL 'sum', in the pinned program and in every row, IS THE sha256 OF THE DUMP (.gsa) THAT Qxb6603409aProg.lean LOADS. Nothing in Lean hashes anything: it is a label: what it is worth is what the hold of that sum in a sandbox is worth. -/
noncomputable def Try.pinned : Pinned := { name := "qxb6603409a", sum := "667cdc954dc58a08944b1e94915f903e547fc067abbe6b27192deef9d05561af", checked := Try.checked }
namespace Rows
def none {H : Type} : Left H := { results := [], args := [] }

/-- 'zzlaws_engine_b1.FnMoveBackUnwindsNestedMoves': WHATEVER THE INPUT: true; the input reads as it did. -/
def fnMoveBackUnwindsNestedMovesSpec : ChangeSpec := { name := "fnMoveBackUnwindsNestedMoves", fn := fun _ => fun
  | [d1, d2, d3, d4, d5] => { results := [.lit (.bool true)], args := [d1, d2, d3, d4, d5] }
  | _ => none }
def fnMoveBackUnwindsNestedMovesRow : OpenClaim := { program := "qxb6603409a", sum := "667cdc954dc58a08944b1e94915f903e547fc067abbe6b27192deef9d05561af", func := "example.com/stateward/stateward/zzlaws_engine_b1.FnMoveBackUnwindsNestedMoves", spec := "fnMoveBackUnwindsNestedMoves", recurses := true, apart := false }
def FnMoveBackUnwindsNestedMovesSaid : Prop := fnMoveBackUnwindsNestedMovesRow.holds Try.pinned (OpenSpec.ofChange fnMoveBackUnwindsNestedMovesSpec)

/-- ITS FALSE NEIGHBOUR: 'it returns false'. Refute it at one input. -/
def fnMoveBackUnwindsNestedMovesWrong : ChangeSpec := { name := "fnMoveBackUnwindsNestedMoves", fn := fun _ => fun
  | [d1, d2, d3, d4, d5] => { results := [.lit (.bool false)], args := [d1, d2, d3, d4, d5] }
  | _ => none }
def FnMoveBackUnwindsNestedMovesWrongFalsely : Prop := fnMoveBackUnwindsNestedMovesRow.holds Try.pinned (OpenSpec.ofChange fnMoveBackUnwindsNestedMovesWrong)

/-- 'zzlaws_engine_b1.FnMoveIdempotent': WHATEVER THE INPUT: true; the input reads as it did. -/
def fnMoveIdempotentSpec : ChangeSpec := { name := "fnMoveIdempotent", fn := fun _ => fun
  | [d1, d2, d3, d4, d5] => { results := [.lit (.bool true)], args := [d1, d2, d3, d4, d5] }
  | _ => none }
def fnMoveIdempotentRow : OpenClaim := { program := "qxb6603409a", sum := "667cdc954dc58a08944b1e94915f903e547fc067abbe6b27192deef9d05561af", func := "example.com/stateward/stateward/zzlaws_engine_b1.FnMoveIdempotent", spec := "fnMoveIdempotent", recurses := true, apart := false }
def FnMoveIdempotentSaid : Prop := fnMoveIdempotentRow.holds Try.pinned (OpenSpec.ofChange fnMoveIdempotentSpec)

/-- ITS FALSE NEIGHBOUR: 'it returns false'. Refute it at one input. -/
def fnMoveIdempotentWrong : ChangeSpec := { name := "fnMoveIdempotent", fn := fun _ => fun
  | [d1, d2, d3, d4, d5] => { results := [.lit (.bool false)], args := [d1, d2, d3, d4, d5] }
  | _ => none }
def FnMoveIdempotentWrongFalsely : Prop := fnMoveIdempotentRow.holds Try.pinned (OpenSpec.ofChange fnMoveIdempotentWrong)

/-- 'zzlaws_engine_b1.FnHexRuneValueOfDigits': WHATEVER THE INPUT: true; the input reads as it did. -/
def fnHexRuneValueOfDigitsSpec : ChangeSpec := { name := "fnHexRuneValueOfDigits", fn := fun _ => fun
  | [d] => { results := [.lit (.bool true)], args := [d] }
  | _ => none }
def fnHexRuneValueOfDigitsRow : OpenClaim := { program := "qxb6603409a", sum := "667cdc954dc58a08944b1e94915f903e547fc067abbe6b27192deef9d05561af", func := "example.com/stateward/stateward/zzlaws_engine_b1.FnHexRuneValueOfDigits", spec := "fnHexRuneValueOfDigits", apart := false }
def FnHexRuneValueOfDigitsSaid : Prop := fnHexRuneValueOfDigitsRow.holds Try.pinned (OpenSpec.ofChange fnHexRuneValueOfDigitsSpec)

/-- ITS FALSE NEIGHBOUR: 'it returns false'. Refute it at one input. -/
def fnHexRuneValueOfDigitsWrong : ChangeSpec := { name := "fnHexRuneValueOfDigits", fn := fun _ => fun
  | [d] => { results := [.lit (.bool false)], args := [d] }
  | _ => none }
def FnHexRuneValueOfDigitsWrongFalsely : Prop := fnHexRuneValueOfDigitsRow.holds Try.pinned (OpenSpec.ofChange fnHexRuneValueOfDigitsWrong)

/-- 'zzlaws_engine_b1.FnHexRuneFourDigitsRoundTrip': WHATEVER THE INPUT: true; the input reads as it did. -/
def fnHexRuneFourDigitsRoundTripSpec : ChangeSpec := { name := "fnHexRuneFourDigitsRoundTrip", fn := fun _ => fun
  | [d] => { results := [.lit (.bool true)], args := [d] }
  | _ => none }
def fnHexRuneFourDigitsRoundTripRow : OpenClaim := { program := "qxb6603409a", sum := "667cdc954dc58a08944b1e94915f903e547fc067abbe6b27192deef9d05561af", func := "example.com/stateward/stateward/zzlaws_engine_b1.FnHexRuneFourDigitsRoundTrip", spec := "fnHexRuneFourDigitsRoundTrip", apart := false }
def FnHexRuneFourDigitsRoundTripSaid : Prop := fnHexRuneFourDigitsRoundTripRow.holds Try.pinned (OpenSpec.ofChange fnHexRuneFourDigitsRoundTripSpec)

/-- ITS FALSE NEIGHBOUR: 'it returns false'. Refute it at one input. -/
def fnHexRuneFourDigitsRoundTripWrong : ChangeSpec := { name := "fnHexRuneFourDigitsRoundTrip", fn := fun _ => fun
  | [d] => { results := [.lit (.bool false)], args := [d] }
  | _ => none }
def FnHexRuneFourDigitsRoundTripWrongFalsely : Prop := fnHexRuneFourDigitsRoundTripRow.holds Try.pinned (OpenSpec.ofChange fnHexRuneFourDigitsRoundTripWrong)

/-- 'zzlaws_engine_b1.FnLabelKeyExact': WHATEVER THE INPUT: true; the input reads as it did. -/
def fnLabelKeyExactSpec : ChangeSpec := { name := "fnLabelKeyExact", fn := fun _ => fun
  | [d1, d2] => { results := [.lit (.bool true)], args := [d1, d2] }
  | _ => none }
def fnLabelKeyExactRow : OpenClaim := { program := "qxb6603409a", sum := "667cdc954dc58a08944b1e94915f903e547fc067abbe6b27192deef9d05561af", func := "example.com/stateward/stateward/zzlaws_engine_b1.FnLabelKeyExact", spec := "fnLabelKeyExact", inPlace := ["internal/abi.NoEscape", "internal/bytealg.MakeNoZero"], recurses := true, maps := true, apart := false }
def FnLabelKeyExactSaid : Prop := fnLabelKeyExactRow.holds Try.pinned (OpenSpec.ofChange fnLabelKeyExactSpec)

/-- ITS FALSE NEIGHBOUR: 'it returns false'. Refute it at one input. -/
def fnLabelKeyExactWrong : ChangeSpec := { name := "fnLabelKeyExact", fn := fun _ => fun
  | [d1, d2] => { results := [.lit (.bool false)], args := [d1, d2] }
  | _ => none }
def FnLabelKeyExactWrongFalsely : Prop := fnLabelKeyExactRow.holds Try.pinned (OpenSpec.ofChange fnLabelKeyExactWrong)

/-- 'zzlaws_engine_b1.FnLabelKeyParsesBack': WHATEVER THE INPUT: true; the input reads as it did. -/
def fnLabelKeyParsesBackSpec : ChangeSpec := { name := "fnLabelKeyParsesBack", fn := fun _ => fun
  | [d1, d2] => { results := [.lit (.bool true)], args := [d1, d2] }
  | _ => none }
def fnLabelKeyParsesBackRow : OpenClaim := { program := "qxb6603409a", sum := "667cdc954dc58a08944b1e94915f903e547fc067abbe6b27192deef9d05561af", func := "example.com/stateward/stateward/zzlaws_engine_b1.FnLabelKeyParsesBack", spec := "fnLabelKeyParsesBack", inPlace := ["internal/abi.NoEscape", "internal/bytealg.MakeNoZero"], recurses := true, maps := true, apart := false }
def FnLabelKeyParsesBackSaid : Prop := fnLabelKeyParsesBackRow.holds Try.pinned (OpenSpec.ofChange fnLabelKeyParsesBackSpec)

/-- ITS FALSE NEIGHBOUR: 'it returns false'. Refute it at one input. -/
def fnLabelKeyParsesBackWrong : ChangeSpec := { name := "fnLabelKeyParsesBack", fn := fun _ => fun
  | [d1, d2] => { results := [.lit (.bool false)], args := [d1, d2] }
  | _ => none }
def FnLabelKeyParsesBackWrongFalsely : Prop := fnLabelKeyParsesBackRow.holds Try.pinned (OpenSpec.ofChange fnLabelKeyParsesBackWrong)

end Rows
end Go.Proofs.Qxb6603409a

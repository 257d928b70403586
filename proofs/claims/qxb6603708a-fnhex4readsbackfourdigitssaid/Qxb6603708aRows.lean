/-
  No cell of these rows narrows 'for every input' (looked for: loops, veiled, ifaces, maps, wideKeys, modest, calm, conditions, laid).
  DERIVED. THE GIVEN ROWS OF THIS SEAT. 3 by the template 'for every input the law returns true; each argument reads behind the call as it read before'; 0 by the template 'total and deterministic' (their statements: Qxb6603708aTotals.lean).
  GIVEN WITH THE SEED: the statements are not yours to turn. If you find one false, say at which input.
  Laid BY PROGRAM, IN A SANDBOX (cutbox-rows.mjs): the forced cells as the released guide's own fill.sh prints them over the translation 820a85a18c47087c… (all of the seat's roots in one cut). By AI agents, Wed Nov 11 2026. No macro, syntax, notation, axiom, sorry.
-/
import Derived.Test.Qxb6603708aChecked
import GoSem.Claim
import GoSem.ClaimJoined
import GoSem.ClaimMapViews
import Derived.JoinedTies
import Derived.KernelRfl
namespace Go.Proofs.Qxb6603708a
/- THE CELL 'sum', in the pinned program and in every row, IS THE sha256 OF THE DUMP (.gsa) THAT Qxb6603708aProg.lean LOADS. Nothing in Lean hashes anything: it is a label: what it is worth is what the hold of that sum in a sandbox is worth. -/
noncomputable def Try.pinned : Pinned := { name := "qxb6603708a", sum := "820a85a18c47087c2526c0edcf20fb6440f9cf16a899a7e4ec63e71502e0ab0e", checked := Try.checked }
namespace Rows
def none {H : Type} : Left H := { results := [], args := [] }

/-- 'zzlaws_root_b1.FnHex4ReadsBackFourDigits': WHATEVER THE INPUT: true; the input reads as it did. -/
def fnHex4ReadsBackFourDigitsSpec : ChangeSpec := { name := "fnHex4ReadsBackFourDigits", fn := fun _ => fun
  | [d1, d2, d3] => { results := [.lit (.bool true)], args := [d1, d2, d3] }
  | _ => none }
def fnHex4ReadsBackFourDigitsRow : OpenClaim := { program := "qxb6603708a", sum := "820a85a18c47087c2526c0edcf20fb6440f9cf16a899a7e4ec63e71502e0ab0e", func := "example.com/outrigger/outrigger/zzlaws_root_b1.FnHex4ReadsBackFourDigits", spec := "fnHex4ReadsBackFourDigits", apart := false }
def FnHex4ReadsBackFourDigitsSaid : Prop := fnHex4ReadsBackFourDigitsRow.holds Try.pinned (OpenSpec.ofChange fnHex4ReadsBackFourDigitsSpec)

/-- ITS FALSE NEIGHBOUR: 'it returns false'. Refute it at one input. -/
def fnHex4ReadsBackFourDigitsWrong : ChangeSpec := { name := "fnHex4ReadsBackFourDigits", fn := fun _ => fun
  | [d1, d2, d3] => { results := [.lit (.bool false)], args := [d1, d2, d3] }
  | _ => none }
def FnHex4ReadsBackFourDigitsWrongFalsely : Prop := fnHex4ReadsBackFourDigitsRow.holds Try.pinned (OpenSpec.ofChange fnHex4ReadsBackFourDigitsWrong)

/-- 'zzlaws_root_b1.FnHidePasswordMatchesColonRule': WHATEVER THE INPUT: true; the input reads as it did. -/
def fnHidePasswordMatchesColonRuleSpec : ChangeSpec := { name := "fnHidePasswordMatchesColonRule", fn := fun _ => fun
  | [d] => { results := [.lit (.bool true)], args := [d] }
  | _ => none }
def fnHidePasswordMatchesColonRuleRow : OpenClaim := { program := "qxb6603708a", sum := "820a85a18c47087c2526c0edcf20fb6440f9cf16a899a7e4ec63e71502e0ab0e", func := "example.com/outrigger/outrigger/zzlaws_root_b1.FnHidePasswordMatchesColonRule", spec := "fnHidePasswordMatchesColonRule", inPlace := ["internal/bytealg.IndexByteString"], apart := false }
def FnHidePasswordMatchesColonRuleSaid : Prop := fnHidePasswordMatchesColonRuleRow.holds Try.pinned (OpenSpec.ofChange fnHidePasswordMatchesColonRuleSpec)

/-- ITS FALSE NEIGHBOUR: 'it returns false'. Refute it at one input. -/
def fnHidePasswordMatchesColonRuleWrong : ChangeSpec := { name := "fnHidePasswordMatchesColonRule", fn := fun _ => fun
  | [d] => { results := [.lit (.bool false)], args := [d] }
  | _ => none }
def FnHidePasswordMatchesColonRuleWrongFalsely : Prop := fnHidePasswordMatchesColonRuleRow.holds Try.pinned (OpenSpec.ofChange fnHidePasswordMatchesColonRuleWrong)

/-- 'zzlaws_root_b1.FnHidePasswordHidesURLPassword': WHATEVER THE INPUT: true; the input reads as it did. -/
def fnHidePasswordHidesURLPasswordSpec : ChangeSpec := { name := "fnHidePasswordHidesURLPassword", fn := fun _ => fun
  | [d1, d2, d3, d4] => { results := [.lit (.bool true)], args := [d1, d2, d3, d4] }
  | _ => none }
def fnHidePasswordHidesURLPasswordRow : OpenClaim := { program := "qxb6603708a", sum := "820a85a18c47087c2526c0edcf20fb6440f9cf16a899a7e4ec63e71502e0ab0e", func := "example.com/outrigger/outrigger/zzlaws_root_b1.FnHidePasswordHidesURLPassword", spec := "fnHidePasswordHidesURLPassword", inPlace := ["internal/bytealg.IndexByteString"], apart := false }
def FnHidePasswordHidesURLPasswordSaid : Prop := fnHidePasswordHidesURLPasswordRow.holds Try.pinned (OpenSpec.ofChange fnHidePasswordHidesURLPasswordSpec)

/-- ITS FALSE NEIGHBOUR: 'it returns false'. Refute it at one input. -/
def fnHidePasswordHidesURLPasswordWrong : ChangeSpec := { name := "fnHidePasswordHidesURLPassword", fn := fun _ => fun
  | [d1, d2, d3, d4] => { results := [.lit (.bool false)], args := [d1, d2, d3, d4] }
  | _ => none }
def FnHidePasswordHidesURLPasswordWrongFalsely : Prop := fnHidePasswordHidesURLPasswordRow.holds Try.pinned (OpenSpec.ofChange fnHidePasswordHidesURLPasswordWrong)

end Rows
end Go.Proofs.Qxb6603708a

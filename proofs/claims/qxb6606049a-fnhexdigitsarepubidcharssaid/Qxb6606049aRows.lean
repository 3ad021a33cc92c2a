/-
  No cell of these rows narrows 'for every input' (looked for: loops, veiled, ifaces, maps, wideKeys, modest, calm, conditions, laid).
  DERIVED. THE GIVEN ROWS OF THIS SEAT. 3 by the template 'for every input the law returns true; each argument reads behind the call as it read before'; 0 by the template 'total and deterministic' (their statements: Qxb6606049aTotals.lean).
  GIVEN WITH THE SEED: the statements are not yours to turn. If you find one false, say at which input.
  Laid BY PROGRAM, IN A SANDBOX (cutbox-rows.mjs): the forced cells as the released guide's own fill.sh prints them over the translation 6fdd7eda173bdbab… (all of the seat's roots in one cut). By AI agents, Wed Nov 11 2026. No macro, syntax, notation, axiom, sorry.
-/
import Derived.Test.Qxb6606049aChecked
import GoSem.Claim
import GoSem.ClaimJoined
import GoSem.ClaimMapViews
import Derived.JoinedTies
import Derived.KernelRfl
namespace Go.Proofs.Qxb6606049a
/- THE CELL 'sum', in the pinned program and in every row, IS THE sha256 OF THE DUMP (.gsa) THAT Qxb6606049aProg.lean LOADS. Nothing in Lean hashes anything: it is a label: what it is worth is what the hold of that sum in a sandbox is worth. -/
noncomputable def Try.pinned : Pinned := { name := "qxb6606049a", sum := "6fdd7eda173bdbab6f24a9b15e169b0854ba5004564b06a06e22c698313c34e3", checked := Try.checked }
namespace Rows
def none {H : Type} : Left H := { results := [], args := [] }

/-- 'zzlaws_wellformed_b1.FnIsPubidCharMatchesSpecTable': WHATEVER THE INPUT: true; the input reads as it did. -/
def fnIsPubidCharMatchesSpecTableSpec : ChangeSpec := { name := "fnIsPubidCharMatchesSpecTable", fn := fun _ => fun
  | [d] => { results := [.lit (.bool true)], args := [d] }
  | _ => none }
def fnIsPubidCharMatchesSpecTableRow : OpenClaim := { program := "qxb6606049a", sum := "6fdd7eda173bdbab6f24a9b15e169b0854ba5004564b06a06e22c698313c34e3", func := "example.com/sluicekeeper/sluicekeeper/zzlaws_wellformed_b1.FnIsPubidCharMatchesSpecTable", spec := "fnIsPubidCharMatchesSpecTable", apart := false }
def FnIsPubidCharMatchesSpecTableSaid : Prop := fnIsPubidCharMatchesSpecTableRow.holds Try.pinned (OpenSpec.ofChange fnIsPubidCharMatchesSpecTableSpec)

/-- ITS FALSE NEIGHBOUR: 'it returns false'. Refute it at one input. -/
def fnIsPubidCharMatchesSpecTableWrong : ChangeSpec := { name := "fnIsPubidCharMatchesSpecTable", fn := fun _ => fun
  | [d] => { results := [.lit (.bool false)], args := [d] }
  | _ => none }
def FnIsPubidCharMatchesSpecTableWrongFalsely : Prop := fnIsPubidCharMatchesSpecTableRow.holds Try.pinned (OpenSpec.ofChange fnIsPubidCharMatchesSpecTableWrong)

/-- 'zzlaws_wellformed_b1.FnPubidCharCountIs84': WHATEVER THE INPUT: true; the input reads as it did. -/
def fnPubidCharCountIs84Spec : ChangeSpec := { name := "fnPubidCharCountIs84", fn := fun _ => fun
  | [] => { results := [.lit (.bool true)], args := [] }
  | _ => none }
def fnPubidCharCountIs84Row : OpenClaim := { program := "qxb6606049a", sum := "6fdd7eda173bdbab6f24a9b15e169b0854ba5004564b06a06e22c698313c34e3", func := "example.com/sluicekeeper/sluicekeeper/zzlaws_wellformed_b1.FnPubidCharCountIs84", spec := "fnPubidCharCountIs84", apart := false }
def FnPubidCharCountIs84Said : Prop := fnPubidCharCountIs84Row.holds Try.pinned (OpenSpec.ofChange fnPubidCharCountIs84Spec)

/-- ITS FALSE NEIGHBOUR: 'it returns false'. Refute it at one input. -/
def fnPubidCharCountIs84Wrong : ChangeSpec := { name := "fnPubidCharCountIs84", fn := fun _ => fun
  | [] => { results := [.lit (.bool false)], args := [] }
  | _ => none }
def FnPubidCharCountIs84WrongFalsely : Prop := fnPubidCharCountIs84Row.holds Try.pinned (OpenSpec.ofChange fnPubidCharCountIs84Wrong)

/-- 'zzlaws_wellformed_b1.FnHexDigitsArePubidChars': WHATEVER THE INPUT: true; the input reads as it did. -/
def fnHexDigitsArePubidCharsSpec : ChangeSpec := { name := "fnHexDigitsArePubidChars", fn := fun _ => fun
  | [d] => { results := [.lit (.bool true)], args := [d] }
  | _ => none }
def fnHexDigitsArePubidCharsRow : OpenClaim := { program := "qxb6606049a", sum := "6fdd7eda173bdbab6f24a9b15e169b0854ba5004564b06a06e22c698313c34e3", func := "example.com/sluicekeeper/sluicekeeper/zzlaws_wellformed_b1.FnHexDigitsArePubidChars", spec := "fnHexDigitsArePubidChars", apart := false }
def FnHexDigitsArePubidCharsSaid : Prop := fnHexDigitsArePubidCharsRow.holds Try.pinned (OpenSpec.ofChange fnHexDigitsArePubidCharsSpec)

/-- ITS FALSE NEIGHBOUR: 'it returns false'. Refute it at one input. -/
def fnHexDigitsArePubidCharsWrong : ChangeSpec := { name := "fnHexDigitsArePubidChars", fn := fun _ => fun
  | [d] => { results := [.lit (.bool false)], args := [d] }
  | _ => none }
def FnHexDigitsArePubidCharsWrongFalsely : Prop := fnHexDigitsArePubidCharsRow.holds Try.pinned (OpenSpec.ofChange fnHexDigitsArePubidCharsWrong)

end Rows
end Go.Proofs.Qxb6606049a

/-
  No cell of these rows narrows 'for every input' (looked for: loops, veiled, ifaces, maps, wideKeys, modest, calm, conditions, laid).
  DERIVED. THE GIVEN ROWS OF THIS SEAT. 4 by the template 'for every input the law returns true; each argument reads behind the call as it read before'; 0 by the template 'total and deterministic' (their statements: Qxb6605560aTotals.lean).
  GIVEN WITH THE SEED: the statements are not yours to turn. If you find one false, say at which input.
  Laid BY PROGRAM, IN A SANDBOX (cutbox-rows.mjs): the forced cells as the released guide's own fill.sh prints them over the translation 51e51a1909ce7cbd… (all of the seat's roots in one cut). By AI agents, Wed Nov 11 2026. No macro, syntax, notation, axiom, sorry.
-/
import Derived.Test.Qxb6605560aChecked
import GoSem.Claim
import GoSem.ClaimJoined
import GoSem.ClaimMapViews
import Derived.JoinedTies
import Derived.KernelRfl
namespace Go.Proofs.Qxb6605560a
/- THE CELL 'sum', in the pinned program and in every row, IS THE sha256 OF THE DUMP (.gsa) THAT Qxb6605560aProg.lean LOADS. Nothing in Lean hashes anything: it is a label: what it is worth is what the hold of that sum in a sandbox is worth. -/
noncomputable def Try.pinned : Pinned := { name := "qxb6605560a", sum := "51e51a1909ce7cbdb71ee78376f8624620be4d6e47103a02bb62f27e76013364", checked := Try.checked }
namespace Rows
def none {H : Type} : Left H := { results := [], args := [] }

/-- 'zzlaws_pkg_nas_b1.FnEstablishmentRequestEncodeDecodes': WHATEVER THE INPUT: true; the input reads as it did. -/
def fnEstablishmentRequestEncodeDecodesSpec : ChangeSpec := { name := "fnEstablishmentRequestEncodeDecodes", fn := fun _ => fun
  | [d1, d2, d3, d4] => { results := [.lit (.bool true)], args := [d1, d2, d3, d4] }
  | _ => none }
def fnEstablishmentRequestEncodeDecodesRow : OpenClaim := { program := "qxb6605560a", sum := "51e51a1909ce7cbdb71ee78376f8624620be4d6e47103a02bb62f27e76013364", func := "example.com/fulmar/fulmar/zzlaws_pkg_nas_b1.FnEstablishmentRequestEncodeDecodes", spec := "fnEstablishmentRequestEncodeDecodes", apart := false }
def FnEstablishmentRequestEncodeDecodesSaid : Prop := fnEstablishmentRequestEncodeDecodesRow.holds Try.pinned (OpenSpec.ofChange fnEstablishmentRequestEncodeDecodesSpec)

/-- ITS FALSE NEIGHBOUR: 'it returns false'. Refute it at one input. -/
def fnEstablishmentRequestEncodeDecodesWrong : ChangeSpec := { name := "fnEstablishmentRequestEncodeDecodes", fn := fun _ => fun
  | [d1, d2, d3, d4] => { results := [.lit (.bool false)], args := [d1, d2, d3, d4] }
  | _ => none }
def FnEstablishmentRequestEncodeDecodesWrongFalsely : Prop := fnEstablishmentRequestEncodeDecodesRow.holds Try.pinned (OpenSpec.ofChange fnEstablishmentRequestEncodeDecodesWrong)

/-- 'zzlaws_pkg_nas_b1.FnEstablishmentRequestEncodeSameIffSameFields': WHATEVER THE INPUT: true; the input reads as it did. -/
def fnEstablishmentRequestEncodeSameIffSameFieldsSpec : ChangeSpec := { name := "fnEstablishmentRequestEncodeSameIffSameFields", fn := fun _ => fun
  | [d1, d2, d3, d4, d5, d6, d7, d8] => { results := [.lit (.bool true)], args := [d1, d2, d3, d4, d5, d6, d7, d8] }
  | _ => none }
def fnEstablishmentRequestEncodeSameIffSameFieldsRow : OpenClaim := { program := "qxb6605560a", sum := "51e51a1909ce7cbdb71ee78376f8624620be4d6e47103a02bb62f27e76013364", func := "example.com/fulmar/fulmar/zzlaws_pkg_nas_b1.FnEstablishmentRequestEncodeSameIffSameFields", spec := "fnEstablishmentRequestEncodeSameIffSameFields", apart := false }
def FnEstablishmentRequestEncodeSameIffSameFieldsSaid : Prop := fnEstablishmentRequestEncodeSameIffSameFieldsRow.holds Try.pinned (OpenSpec.ofChange fnEstablishmentRequestEncodeSameIffSameFieldsSpec)

/-- ITS FALSE NEIGHBOUR: 'it returns false'. Refute it at one input. -/
def fnEstablishmentRequestEncodeSameIffSameFieldsWrong : ChangeSpec := { name := "fnEstablishmentRequestEncodeSameIffSameFields", fn := fun _ => fun
  | [d1, d2, d3, d4, d5, d6, d7, d8] => { results := [.lit (.bool false)], args := [d1, d2, d3, d4, d5, d6, d7, d8] }
  | _ => none }
def FnEstablishmentRequestEncodeSameIffSameFieldsWrongFalsely : Prop := fnEstablishmentRequestEncodeSameIffSameFieldsRow.holds Try.pinned (OpenSpec.ofChange fnEstablishmentRequestEncodeSameIffSameFieldsWrong)

/-- 'zzlaws_pkg_nas_b1.FnEstablishmentRejectEncodeDecodes': WHATEVER THE INPUT: true; the input reads as it did. -/
def fnEstablishmentRejectEncodeDecodesSpec : ChangeSpec := { name := "fnEstablishmentRejectEncodeDecodes", fn := fun _ => fun
  | [d1, d2, d3, d4] => { results := [.lit (.bool true)], args := [d1, d2, d3, d4] }
  | _ => none }
def fnEstablishmentRejectEncodeDecodesRow : OpenClaim := { program := "qxb6605560a", sum := "51e51a1909ce7cbdb71ee78376f8624620be4d6e47103a02bb62f27e76013364", func := "example.com/fulmar/fulmar/zzlaws_pkg_nas_b1.FnEstablishmentRejectEncodeDecodes", spec := "fnEstablishmentRejectEncodeDecodes", apart := false }
def FnEstablishmentRejectEncodeDecodesSaid : Prop := fnEstablishmentRejectEncodeDecodesRow.holds Try.pinned (OpenSpec.ofChange fnEstablishmentRejectEncodeDecodesSpec)

/-- ITS FALSE NEIGHBOUR: 'it returns false'. Refute it at one input. -/
def fnEstablishmentRejectEncodeDecodesWrong : ChangeSpec := { name := "fnEstablishmentRejectEncodeDecodes", fn := fun _ => fun
  | [d1, d2, d3, d4] => { results := [.lit (.bool false)], args := [d1, d2, d3, d4] }
  | _ => none }
def FnEstablishmentRejectEncodeDecodesWrongFalsely : Prop := fnEstablishmentRejectEncodeDecodesRow.holds Try.pinned (OpenSpec.ofChange fnEstablishmentRejectEncodeDecodesWrong)

/-- 'zzlaws_pkg_nas_b1.FnEstablishmentRejectEncodeSameIffSameModes': WHATEVER THE INPUT: true; the input reads as it did. -/
def fnEstablishmentRejectEncodeSameIffSameModesSpec : ChangeSpec := { name := "fnEstablishmentRejectEncodeSameIffSameModes", fn := fun _ => fun
  | [d1, d2, d3, d4, d5] => { results := [.lit (.bool true)], args := [d1, d2, d3, d4, d5] }
  | _ => none }
def fnEstablishmentRejectEncodeSameIffSameModesRow : OpenClaim := { program := "qxb6605560a", sum := "51e51a1909ce7cbdb71ee78376f8624620be4d6e47103a02bb62f27e76013364", func := "example.com/fulmar/fulmar/zzlaws_pkg_nas_b1.FnEstablishmentRejectEncodeSameIffSameModes", spec := "fnEstablishmentRejectEncodeSameIffSameModes", apart := false }
def FnEstablishmentRejectEncodeSameIffSameModesSaid : Prop := fnEstablishmentRejectEncodeSameIffSameModesRow.holds Try.pinned (OpenSpec.ofChange fnEstablishmentRejectEncodeSameIffSameModesSpec)

/-- ITS FALSE NEIGHBOUR: 'it returns false'. Refute it at one input. -/
def fnEstablishmentRejectEncodeSameIffSameModesWrong : ChangeSpec := { name := "fnEstablishmentRejectEncodeSameIffSameModes", fn := fun _ => fun
  | [d1, d2, d3, d4, d5] => { results := [.lit (.bool false)], args := [d1, d2, d3, d4, d5] }
  | _ => none }
def FnEstablishmentRejectEncodeSameIffSameModesWrongFalsely : Prop := fnEstablishmentRejectEncodeSameIffSameModesRow.holds Try.pinned (OpenSpec.ofChange fnEstablishmentRejectEncodeSameIffSameModesWrong)

end Rows
end Go.Proofs.Qxb6605560a

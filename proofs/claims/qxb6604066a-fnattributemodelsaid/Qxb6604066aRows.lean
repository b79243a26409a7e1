/-
  No cell of these rows narrows 'for every input' (looked for: loops, veiled, ifaces, maps, wideKeys, modest, calm, conditions, laid).
  DERIVED. THE GIVEN ROWS OF THIS SEAT. 4 by the template 'for every input the law returns true; each argument reads behind the call as it read before'; 0 by the template 'total and deterministic' (their statements: Qxb6604066aTotals.lean).
  GIVEN WITH THE SEED: the statements are not yours to turn. If you find one false, say at which input.
  Laid BY PROGRAM, IN A SANDBOX (cutbox-rows.mjs): the forced cells as the released guide's own fill.sh prints them over the translation 4fc43f25e30aacbb… (all of the seat's roots in one cut). By AI agents, Wed Nov 11 2026. No macro, syntax, notation, axiom, sorry.
-/
import Derived.Test.Qxb6604066aChecked
import GoSem.Claim
import GoSem.ClaimJoined
import GoSem.ClaimMapViews
import Derived.JoinedTies
import Derived.KernelRfl
namespace Go.Proofs.Qxb6604066a
/- THE CELL 'sum', in the pinned program and in every row, IS THE sha256 OF THE DUMP (.gsa) THAT Qxb6604066aProg.lean LOADS. Nothing in Lean hashes anything: it is a label: what it is worth is what the hold of that sum in a sandbox is worth. -/
noncomputable def Try.pinned : Pinned := { name := "qxb6604066a", sum := "4fc43f25e30aacbbbd1b10caa802325b0f34b4324bf9adfa497388e44c69bc16", checked := Try.checked }
namespace Rows
def none {H : Type} : Left H := { results := [], args := [] }

/-- 'zzlaws_internal_markdown_b1.FnDestinationEndModel': WHATEVER THE INPUT: true; the input reads as it did. -/
def fnDestinationEndModelSpec : ChangeSpec := { name := "fnDestinationEndModel", fn := fun _ => fun
  | [d1, d2] => { results := [.lit (.bool true)], args := [d1, d2] }
  | _ => none }
def fnDestinationEndModelRow : OpenClaim := { program := "qxb6604066a", sum := "4fc43f25e30aacbbbd1b10caa802325b0f34b4324bf9adfa497388e44c69bc16", func := "example.com/keystone-relay/keystone-relay/zzlaws_internal_markdown_b1.FnDestinationEndModel", spec := "fnDestinationEndModel", inPlace := ["internal/bytealg.IndexByteString"], apart := false }
def FnDestinationEndModelSaid : Prop := fnDestinationEndModelRow.holds Try.pinned (OpenSpec.ofChange fnDestinationEndModelSpec)

/-- ITS FALSE NEIGHBOUR: 'it returns false'. Refute it at one input. -/
def fnDestinationEndModelWrong : ChangeSpec := { name := "fnDestinationEndModel", fn := fun _ => fun
  | [d1, d2] => { results := [.lit (.bool false)], args := [d1, d2] }
  | _ => none }
def FnDestinationEndModelWrongFalsely : Prop := fnDestinationEndModelRow.holds Try.pinned (OpenSpec.ofChange fnDestinationEndModelWrong)

/-- 'zzlaws_internal_markdown_b1.FnDestinationEndLocal': WHATEVER THE INPUT: true; the input reads as it did. -/
def fnDestinationEndLocalSpec : ChangeSpec := { name := "fnDestinationEndLocal", fn := fun _ => fun
  | [d1, d2] => { results := [.lit (.bool true)], args := [d1, d2] }
  | _ => none }
def fnDestinationEndLocalRow : OpenClaim := { program := "qxb6604066a", sum := "4fc43f25e30aacbbbd1b10caa802325b0f34b4324bf9adfa497388e44c69bc16", func := "example.com/keystone-relay/keystone-relay/zzlaws_internal_markdown_b1.FnDestinationEndLocal", spec := "fnDestinationEndLocal", inPlace := ["internal/bytealg.IndexByteString"], apart := false }
def FnDestinationEndLocalSaid : Prop := fnDestinationEndLocalRow.holds Try.pinned (OpenSpec.ofChange fnDestinationEndLocalSpec)

/-- ITS FALSE NEIGHBOUR: 'it returns false'. Refute it at one input. -/
def fnDestinationEndLocalWrong : ChangeSpec := { name := "fnDestinationEndLocal", fn := fun _ => fun
  | [d1, d2] => { results := [.lit (.bool false)], args := [d1, d2] }
  | _ => none }
def FnDestinationEndLocalWrongFalsely : Prop := fnDestinationEndLocalRow.holds Try.pinned (OpenSpec.ofChange fnDestinationEndLocalWrong)

/-- 'zzlaws_internal_markdown_b1.FnAttributeModel': WHATEVER THE INPUT: true; the input reads as it did. -/
def fnAttributeModelSpec : ChangeSpec := { name := "fnAttributeModel", fn := fun _ => fun
  | [d1, d2] => { results := [.lit (.bool true)], args := [d1, d2] }
  | _ => none }
def fnAttributeModelRow : OpenClaim := { program := "qxb6604066a", sum := "4fc43f25e30aacbbbd1b10caa802325b0f34b4324bf9adfa497388e44c69bc16", func := "example.com/keystone-relay/keystone-relay/zzlaws_internal_markdown_b1.FnAttributeModel", spec := "fnAttributeModel", inPlace := ["internal/bytealg.IndexByteString"], apart := false }
def FnAttributeModelSaid : Prop := fnAttributeModelRow.holds Try.pinned (OpenSpec.ofChange fnAttributeModelSpec)

/-- ITS FALSE NEIGHBOUR: 'it returns false'. Refute it at one input. -/
def fnAttributeModelWrong : ChangeSpec := { name := "fnAttributeModel", fn := fun _ => fun
  | [d1, d2] => { results := [.lit (.bool false)], args := [d1, d2] }
  | _ => none }
def FnAttributeModelWrongFalsely : Prop := fnAttributeModelRow.holds Try.pinned (OpenSpec.ofChange fnAttributeModelWrong)

/-- 'zzlaws_internal_markdown_b1.FnTagLengthModel': WHATEVER THE INPUT: true; the input reads as it did. -/
def fnTagLengthModelSpec : ChangeSpec := { name := "fnTagLengthModel", fn := fun _ => fun
  | [d] => { results := [.lit (.bool true)], args := [d] }
  | _ => none }
def fnTagLengthModelRow : OpenClaim := { program := "qxb6604066a", sum := "4fc43f25e30aacbbbd1b10caa802325b0f34b4324bf9adfa497388e44c69bc16", func := "example.com/keystone-relay/keystone-relay/zzlaws_internal_markdown_b1.FnTagLengthModel", spec := "fnTagLengthModel", inPlace := ["internal/bytealg.IndexByteString"], apart := false }
def FnTagLengthModelSaid : Prop := fnTagLengthModelRow.holds Try.pinned (OpenSpec.ofChange fnTagLengthModelSpec)

/-- ITS FALSE NEIGHBOUR: 'it returns false'. Refute it at one input. -/
def fnTagLengthModelWrong : ChangeSpec := { name := "fnTagLengthModel", fn := fun _ => fun
  | [d] => { results := [.lit (.bool false)], args := [d] }
  | _ => none }
def FnTagLengthModelWrongFalsely : Prop := fnTagLengthModelRow.holds Try.pinned (OpenSpec.ofChange fnTagLengthModelWrong)

end Rows
end Go.Proofs.Qxb6604066a

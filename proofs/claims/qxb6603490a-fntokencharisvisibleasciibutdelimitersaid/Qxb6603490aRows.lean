/-
  No cell of these rows narrows 'for every input' (looked for: loops, veiled, ifaces, maps, wideKeys, modest, calm, conditions, laid).
  DERIVED. THE GIVEN ROWS OF THIS SEAT. 4 by the template 'for every input the law returns true; each argument reads behind the call as it read before'; 0 by the template 'total and deterministic' (their statements: Qxb6603490aTotals.lean).
  GIVEN WITH THE SEED: the statements are not yours to turn. If you find one false, say at which input.
  Laid BY PROGRAM, IN A SANDBOX (cutbox-rows.mjs): the forced cells as the released guide's own fill.sh prints them over the translation 0c26c5cebf226613… (all of the seat's roots in one cut). By AI agents, Wed Nov 11 2026. No macro, syntax, notation, axiom, sorry.
-/
import Derived.Test.Qxb6603490aChecked
import GoSem.Claim
import GoSem.ClaimJoined
import GoSem.ClaimMapViews
import Derived.JoinedTies
import Derived.KernelRfl
namespace Go.Proofs.Qxb6603490a
/- THE CELL 'sum', in the pinned program and in every row, IS THE sha256 OF THE DUMP (.gsa) THAT Qxb6603490aProg.lean LOADS. Nothing in Lean hashes anything: it is a label: what it is worth is what the hold of that sum in a sandbox is worth. -/
noncomputable def Try.pinned : Pinned := { name := "qxb6603490a", sum := "0c26c5cebf226613e0cdebccea7114568a4e82892cb67a40c18cdb7d35120d84", checked := Try.checked }
namespace Rows
def none {H : Type} : Left H := { results := [], args := [] }

/-- 'zzlaws_root_b1.FnTokenCharIsVisibleASCIIButDelimiter': WHATEVER THE INPUT: true; the input reads as it did. -/
def fnTokenCharIsVisibleASCIIButDelimiterSpec : ChangeSpec := { name := "fnTokenCharIsVisibleASCIIButDelimiter", fn := fun _ => fun
  | [d] => { results := [.lit (.bool true)], args := [d] }
  | _ => none }
def fnTokenCharIsVisibleASCIIButDelimiterRow : OpenClaim := { program := "qxb6603490a", sum := "0c26c5cebf226613e0cdebccea7114568a4e82892cb67a40c18cdb7d35120d84", func := "example.com/oncekey/oncekey/zzlaws_root_b1.FnTokenCharIsVisibleASCIIButDelimiter", spec := "fnTokenCharIsVisibleASCIIButDelimiter", inPlace := ["internal/bytealg.IndexByteString"], apart := false }
def FnTokenCharIsVisibleASCIIButDelimiterSaid : Prop := fnTokenCharIsVisibleASCIIButDelimiterRow.holds Try.pinned (OpenSpec.ofChange fnTokenCharIsVisibleASCIIButDelimiterSpec)

/-- ITS FALSE NEIGHBOUR: 'it returns false'. Refute it at one input. -/
def fnTokenCharIsVisibleASCIIButDelimiterWrong : ChangeSpec := { name := "fnTokenCharIsVisibleASCIIButDelimiter", fn := fun _ => fun
  | [d] => { results := [.lit (.bool false)], args := [d] }
  | _ => none }
def FnTokenCharIsVisibleASCIIButDelimiterWrongFalsely : Prop := fnTokenCharIsVisibleASCIIButDelimiterRow.holds Try.pinned (OpenSpec.ofChange fnTokenCharIsVisibleASCIIButDelimiterWrong)

/-- 'zzlaws_root_b1.FnTokenCharCountIs77': WHATEVER THE INPUT: true; the input reads as it did. -/
def fnTokenCharCountIs77Spec : ChangeSpec := { name := "fnTokenCharCountIs77", fn := fun _ => fun
  | [] => { results := [.lit (.bool true)], args := [] }
  | _ => none }
def fnTokenCharCountIs77Row : OpenClaim := { program := "qxb6603490a", sum := "0c26c5cebf226613e0cdebccea7114568a4e82892cb67a40c18cdb7d35120d84", func := "example.com/oncekey/oncekey/zzlaws_root_b1.FnTokenCharCountIs77", spec := "fnTokenCharCountIs77", inPlace := ["internal/bytealg.IndexByteString"], apart := false }
def FnTokenCharCountIs77Said : Prop := fnTokenCharCountIs77Row.holds Try.pinned (OpenSpec.ofChange fnTokenCharCountIs77Spec)

/-- ITS FALSE NEIGHBOUR: 'it returns false'. Refute it at one input. -/
def fnTokenCharCountIs77Wrong : ChangeSpec := { name := "fnTokenCharCountIs77", fn := fun _ => fun
  | [] => { results := [.lit (.bool false)], args := [] }
  | _ => none }
def FnTokenCharCountIs77WrongFalsely : Prop := fnTokenCharCountIs77Row.holds Try.pinned (OpenSpec.ofChange fnTokenCharCountIs77Wrong)

/-- 'zzlaws_root_b1.FnCallTimeoutIsThirdOfLeaseAtLeastOne': WHATEVER THE INPUT: true; the input reads as it did. -/
def fnCallTimeoutIsThirdOfLeaseAtLeastOneSpec : ChangeSpec := { name := "fnCallTimeoutIsThirdOfLeaseAtLeastOne", fn := fun _ => fun
  | [d] => { results := [.lit (.bool true)], args := [d] }
  | _ => none }
def fnCallTimeoutIsThirdOfLeaseAtLeastOneRow : OpenClaim := { program := "qxb6603490a", sum := "0c26c5cebf226613e0cdebccea7114568a4e82892cb67a40c18cdb7d35120d84", func := "example.com/oncekey/oncekey/zzlaws_root_b1.FnCallTimeoutIsThirdOfLeaseAtLeastOne", spec := "fnCallTimeoutIsThirdOfLeaseAtLeastOne", apart := false }
def FnCallTimeoutIsThirdOfLeaseAtLeastOneSaid : Prop := fnCallTimeoutIsThirdOfLeaseAtLeastOneRow.holds Try.pinned (OpenSpec.ofChange fnCallTimeoutIsThirdOfLeaseAtLeastOneSpec)

/-- ITS FALSE NEIGHBOUR: 'it returns false'. Refute it at one input. -/
def fnCallTimeoutIsThirdOfLeaseAtLeastOneWrong : ChangeSpec := { name := "fnCallTimeoutIsThirdOfLeaseAtLeastOne", fn := fun _ => fun
  | [d] => { results := [.lit (.bool false)], args := [d] }
  | _ => none }
def FnCallTimeoutIsThirdOfLeaseAtLeastOneWrongFalsely : Prop := fnCallTimeoutIsThirdOfLeaseAtLeastOneRow.holds Try.pinned (OpenSpec.ofChange fnCallTimeoutIsThirdOfLeaseAtLeastOneWrong)

/-- 'zzlaws_root_b1.FnCallTimeoutGrowsByOneEveryThreeNanoseconds': WHATEVER THE INPUT: true; the input reads as it did. -/
def fnCallTimeoutGrowsByOneEveryThreeNanosecondsSpec : ChangeSpec := { name := "fnCallTimeoutGrowsByOneEveryThreeNanoseconds", fn := fun _ => fun
  | [d] => { results := [.lit (.bool true)], args := [d] }
  | _ => none }
def fnCallTimeoutGrowsByOneEveryThreeNanosecondsRow : OpenClaim := { program := "qxb6603490a", sum := "0c26c5cebf226613e0cdebccea7114568a4e82892cb67a40c18cdb7d35120d84", func := "example.com/oncekey/oncekey/zzlaws_root_b1.FnCallTimeoutGrowsByOneEveryThreeNanoseconds", spec := "fnCallTimeoutGrowsByOneEveryThreeNanoseconds", apart := false }
def FnCallTimeoutGrowsByOneEveryThreeNanosecondsSaid : Prop := fnCallTimeoutGrowsByOneEveryThreeNanosecondsRow.holds Try.pinned (OpenSpec.ofChange fnCallTimeoutGrowsByOneEveryThreeNanosecondsSpec)

/-- ITS FALSE NEIGHBOUR: 'it returns false'. Refute it at one input. -/
def fnCallTimeoutGrowsByOneEveryThreeNanosecondsWrong : ChangeSpec := { name := "fnCallTimeoutGrowsByOneEveryThreeNanoseconds", fn := fun _ => fun
  | [d] => { results := [.lit (.bool false)], args := [d] }
  | _ => none }
def FnCallTimeoutGrowsByOneEveryThreeNanosecondsWrongFalsely : Prop := fnCallTimeoutGrowsByOneEveryThreeNanosecondsRow.holds Try.pinned (OpenSpec.ofChange fnCallTimeoutGrowsByOneEveryThreeNanosecondsWrong)

end Rows
end Go.Proofs.Qxb6603490a

/-
  No cell of these rows narrows 'for every input' (looked for: loops, veiled, ifaces, maps, wideKeys, modest, calm, conditions, laid).
  DERIVED. THE GIVEN ROWS OF THIS SEAT. 2 by the template 'for every input the law returns true; each argument reads behind the call as it read before'; 0 by the template 'total and deterministic' (their statements: Qxb6608519aTotals.lean).
  GIVEN WITH THE SEED: the statements are not yours to turn. If you find one false, say at which input.
  Laid BY PROGRAM, IN A SANDBOX (cutbox-rows.mjs): the forced cells as the released guide's own fill.sh prints them over the translation 8f333da427da6123… (all of the seat's roots in one cut). By AI agents, Wed Nov 11 2026. No macro, syntax, notation, axiom, sorry.
-/
import Derived.Test.Qxb6608519aChecked
import GoSem.Claim
import GoSem.ClaimJoined
import GoSem.ClaimMapViews
import Derived.JoinedTies
import Derived.KernelRfl
namespace Go.Proofs.Qxb6608519a
/- THE CELL 'sum', in the pinned program and in every row, IS THE sha256 OF THE DUMP (.gsa) THAT Qxb6608519aProg.lean LOADS. Nothing in Lean hashes anything: it is a label: what it is worth is what the hold of that sum in a sandbox is worth. -/
noncomputable def Try.pinned : Pinned := { name := "qxb6608519a", sum := "8f333da427da612319b2e126b8557d7b1053022fb3161d01300561bd1c7c7058", checked := Try.checked }
namespace Rows
def none {H : Type} : Left H := { results := [], args := [] }

/-- 'zzlaws_internal_format_b1.FnURICharsCutAndModel': WHATEVER THE INPUT: true; the input reads as it did. -/
def fnURICharsCutAndModelSpec : ChangeSpec := { name := "fnURICharsCutAndModel", fn := fun _ => fun
  | [d1, d2, d3] => { results := [.lit (.bool true)], args := [d1, d2, d3] }
  | _ => none }
def fnURICharsCutAndModelRow : OpenClaim := { program := "qxb6608519a", sum := "8f333da427da612319b2e126b8557d7b1053022fb3161d01300561bd1c7c7058", func := "example.com/tollgate/tollgate/zzlaws_internal_format_b1.FnURICharsCutAndModel", spec := "fnURICharsCutAndModel", inPlace := ["internal/bytealg.IndexByteString"], apart := false }
def FnURICharsCutAndModelSaid : Prop := fnURICharsCutAndModelRow.holds Try.pinned (OpenSpec.ofChange fnURICharsCutAndModelSpec)

/-- ITS FALSE NEIGHBOUR: 'it returns false'. Refute it at one input. -/
def fnURICharsCutAndModelWrong : ChangeSpec := { name := "fnURICharsCutAndModel", fn := fun _ => fun
  | [d1, d2, d3] => { results := [.lit (.bool false)], args := [d1, d2, d3] }
  | _ => none }
def FnURICharsCutAndModelWrongFalsely : Prop := fnURICharsCutAndModelRow.holds Try.pinned (OpenSpec.ofChange fnURICharsCutAndModelWrong)

/-- 'zzlaws_internal_format_b1.FnURICharsEncoded': WHATEVER THE INPUT: true; the input reads as it did. -/
def fnURICharsEncodedSpec : ChangeSpec := { name := "fnURICharsEncoded", fn := fun _ => fun
  | [d1, d2] => { results := [.lit (.bool true)], args := [d1, d2] }
  | _ => none }
def fnURICharsEncodedRow : OpenClaim := { program := "qxb6608519a", sum := "8f333da427da612319b2e126b8557d7b1053022fb3161d01300561bd1c7c7058", func := "example.com/tollgate/tollgate/zzlaws_internal_format_b1.FnURICharsEncoded", spec := "fnURICharsEncoded", inPlace := ["internal/bytealg.IndexByteString"], apart := false }
def FnURICharsEncodedSaid : Prop := fnURICharsEncodedRow.holds Try.pinned (OpenSpec.ofChange fnURICharsEncodedSpec)

/-- ITS FALSE NEIGHBOUR: 'it returns false'. Refute it at one input. -/
def fnURICharsEncodedWrong : ChangeSpec := { name := "fnURICharsEncoded", fn := fun _ => fun
  | [d1, d2] => { results := [.lit (.bool false)], args := [d1, d2] }
  | _ => none }
def FnURICharsEncodedWrongFalsely : Prop := fnURICharsEncodedRow.holds Try.pinned (OpenSpec.ofChange fnURICharsEncodedWrong)

end Rows
end Go.Proofs.Qxb6608519a

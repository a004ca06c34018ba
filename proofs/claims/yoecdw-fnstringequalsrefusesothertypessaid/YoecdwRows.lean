/-
  No cell of these rows narrows 'for every input' (looked for: loops, veiled, ifaces, maps, wideKeys, modest, calm, conditions, laid).
  DERIVED. THE GIVEN ROWS OF THIS SEAT. 2 by the template 'for every input the law returns true; each argument reads behind the call as it read before'; 0 by the template 'total and deterministic' (their statements: YoecdwTotals.lean).
  GIVEN WITH THE SEED: the statements are not yours to turn. If you find one false, say at which input.
  Laid BY PROGRAM, IN A SANDBOX (cutbox-rows.mjs): the forced cells as the released guide's own fill.sh prints them over the translation 8db01082b59c0e90… (all of the seat's roots in one cut). By AI agents, Wed Nov 11 2026. No macro, syntax, notation, axiom, sorry.
-/
import Derived.Test.YoecdwChecked
import GoSem.Claim
import GoSem.ClaimJoined
import GoSem.ClaimMapViews
import Derived.JoinedTies
import Derived.KernelRfl
namespace Go.Proofs.Yoecdw
/- THE CELL 'sum', in the pinned program and in every row, IS THE sha256 OF THE DUMP (.gsa) THAT YoecdwProg.lean LOADS. Nothing in Lean hashes anything: it is a label: what it is worth is what the hold of that sum in a sandbox is worth. -/
noncomputable def Ecdg.pinned : Pinned := { name := "yoecdw", sum := "8db01082b59c0e905b53bd81b6981d9b53c496c31d6fbe5b4c592fb72c9b4679", checked := Ecdg.checked }
namespace Rows
def none {H : Type} : Left H := { results := [], args := [] }

/-- 'zzlaws_root_b1.FnStringCopyEqualsOriginal': WHATEVER THE INPUT: true; the input reads as it did. -/
def fnStringCopyEqualsOriginalSpec : ChangeSpec := { name := "fnStringCopyEqualsOriginal", fn := fun _ => fun
  | [d1, d2] => { results := [.lit (.bool true)], args := [d1, d2] }
  | _ => none }
def fnStringCopyEqualsOriginalRow : OpenClaim := { program := "yoecdw", sum := "8db01082b59c0e905b53bd81b6981d9b53c496c31d6fbe5b4c592fb72c9b4679", func := "github.com/d5/tengo/v2/zzlaws_root_b1.FnStringCopyEqualsOriginal", spec := "fnStringCopyEqualsOriginal", unfollowed := true, recurses := true, apart := false }
def FnStringCopyEqualsOriginalSaid : Prop := fnStringCopyEqualsOriginalRow.holds Ecdg.pinned (OpenSpec.ofChange fnStringCopyEqualsOriginalSpec)

/-- ITS FALSE NEIGHBOUR: 'it returns false'. Refute it at one input. -/
def fnStringCopyEqualsOriginalWrong : ChangeSpec := { name := "fnStringCopyEqualsOriginal", fn := fun _ => fun
  | [d1, d2] => { results := [.lit (.bool false)], args := [d1, d2] }
  | _ => none }
def FnStringCopyEqualsOriginalWrongFalsely : Prop := fnStringCopyEqualsOriginalRow.holds Ecdg.pinned (OpenSpec.ofChange fnStringCopyEqualsOriginalWrong)

/-- 'zzlaws_root_b1.FnStringEqualsRefusesOtherTypes': WHATEVER THE INPUT: true; the input reads as it did. -/
def fnStringEqualsRefusesOtherTypesSpec : ChangeSpec := { name := "fnStringEqualsRefusesOtherTypes", fn := fun _ => fun
  | [d1, d2, d3] => { results := [.lit (.bool true)], args := [d1, d2, d3] }
  | _ => none }
def fnStringEqualsRefusesOtherTypesRow : OpenClaim := { program := "yoecdw", sum := "8db01082b59c0e905b53bd81b6981d9b53c496c31d6fbe5b4c592fb72c9b4679", func := "github.com/d5/tengo/v2/zzlaws_root_b1.FnStringEqualsRefusesOtherTypes", spec := "fnStringEqualsRefusesOtherTypes", apart := false }
def FnStringEqualsRefusesOtherTypesSaid : Prop := fnStringEqualsRefusesOtherTypesRow.holds Ecdg.pinned (OpenSpec.ofChange fnStringEqualsRefusesOtherTypesSpec)

/-- ITS FALSE NEIGHBOUR: 'it returns false'. Refute it at one input. -/
def fnStringEqualsRefusesOtherTypesWrong : ChangeSpec := { name := "fnStringEqualsRefusesOtherTypes", fn := fun _ => fun
  | [d1, d2, d3] => { results := [.lit (.bool false)], args := [d1, d2, d3] }
  | _ => none }
def FnStringEqualsRefusesOtherTypesWrongFalsely : Prop := fnStringEqualsRefusesOtherTypesRow.holds Ecdg.pinned (OpenSpec.ofChange fnStringEqualsRefusesOtherTypesWrong)

end Rows
end Go.Proofs.Yoecdw

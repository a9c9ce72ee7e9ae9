/-
  No cell of these rows narrows 'for every input' (looked for: loops, veiled, ifaces, maps, wideKeys, modest, calm, conditions, laid).
  DERIVED. THE GIVEN ROWS OF THIS SEAT. 3 by the template 'for every input the law returns true; each argument reads behind the call as it read before'; 0 by the template 'total and deterministic' (their statements: YoefrwTotals.lean).
  GIVEN WITH THE SEED: the statements are not yours to turn. If you find one false, say at which input.
  Laid BY PROGRAM, IN A SANDBOX (cutbox-rows.mjs): the forced cells as the released guide's own fill.sh prints them over the translation 13b6cad3d27b1a92… (all of the seat's roots in one cut). By AI agents, Wed Nov 11 2026. No macro, syntax, notation, axiom, sorry.
-/
import Derived.Test.YoefrwChecked
import GoSem.Claim
import GoSem.ClaimJoined
import GoSem.ClaimMapViews
import Derived.JoinedTies
import Derived.KernelRfl
namespace Go.Proofs.Yoefrw
/- THE CELL 'sum', in the pinned program and in every row, IS THE sha256 OF THE DUMP (.gsa) THAT YoefrwProg.lean LOADS. Nothing in Lean hashes anything: it is a label: what it is worth is what the hold of that sum in a sandbox is worth. -/
noncomputable def Efrg.pinned : Pinned := { name := "yoefrw", sum := "13b6cad3d27b1a9213ebd0b31e36c1aa43bebc177f41fdf65655643f6a921194", checked := Efrg.checked }
namespace Rows
def none {H : Type} : Left H := { results := [], args := [] }

/-- 'zzlaws_root_b3.FnCharStringUTF8': WHATEVER THE INPUT: true; the input reads as it did. -/
def fnCharStringUTF8Spec : ChangeSpec := { name := "fnCharStringUTF8", fn := fun _ => fun
  | [d] => { results := [.lit (.bool true)], args := [d] }
  | _ => none }
def fnCharStringUTF8Row : OpenClaim := { program := "yoefrw", sum := "13b6cad3d27b1a9213ebd0b31e36c1aa43bebc177f41fdf65655643f6a921194", func := "github.com/d5/tengo/v2/zzlaws_root_b3.FnCharStringUTF8", spec := "fnCharStringUTF8", apart := false }
def FnCharStringUTF8Said : Prop := fnCharStringUTF8Row.holds Efrg.pinned (OpenSpec.ofChange fnCharStringUTF8Spec)

/-- ITS FALSE NEIGHBOUR: 'it returns false'. Refute it at one input. -/
def fnCharStringUTF8Wrong : ChangeSpec := { name := "fnCharStringUTF8", fn := fun _ => fun
  | [d] => { results := [.lit (.bool false)], args := [d] }
  | _ => none }
def FnCharStringUTF8WrongFalsely : Prop := fnCharStringUTF8Row.holds Efrg.pinned (OpenSpec.ofChange fnCharStringUTF8Wrong)

/-- 'zzlaws_root_b3.FnCharStringDecodesBack': WHATEVER THE INPUT: true; the input reads as it did. -/
def fnCharStringDecodesBackSpec : ChangeSpec := { name := "fnCharStringDecodesBack", fn := fun _ => fun
  | [d] => { results := [.lit (.bool true)], args := [d] }
  | _ => none }
def fnCharStringDecodesBackRow : OpenClaim := { program := "yoefrw", sum := "13b6cad3d27b1a9213ebd0b31e36c1aa43bebc177f41fdf65655643f6a921194", func := "github.com/d5/tengo/v2/zzlaws_root_b3.FnCharStringDecodesBack", spec := "fnCharStringDecodesBack", apart := false }
def FnCharStringDecodesBackSaid : Prop := fnCharStringDecodesBackRow.holds Efrg.pinned (OpenSpec.ofChange fnCharStringDecodesBackSpec)

/-- ITS FALSE NEIGHBOUR: 'it returns false'. Refute it at one input. -/
def fnCharStringDecodesBackWrong : ChangeSpec := { name := "fnCharStringDecodesBack", fn := fun _ => fun
  | [d] => { results := [.lit (.bool false)], args := [d] }
  | _ => none }
def FnCharStringDecodesBackWrongFalsely : Prop := fnCharStringDecodesBackRow.holds Efrg.pinned (OpenSpec.ofChange fnCharStringDecodesBackWrong)

/-- 'zzlaws_root_b3.FnBytesCanIterate': WHATEVER THE INPUT: true; the input reads as it did. -/
def fnBytesCanIterateSpec : ChangeSpec := { name := "fnBytesCanIterate", fn := fun _ => fun
  | [d] => { results := [.lit (.bool true)], args := [d] }
  | _ => none }
def fnBytesCanIterateRow : OpenClaim := { program := "yoefrw", sum := "13b6cad3d27b1a9213ebd0b31e36c1aa43bebc177f41fdf65655643f6a921194", func := "github.com/d5/tengo/v2/zzlaws_root_b3.FnBytesCanIterate", spec := "fnBytesCanIterate", unfollowed := true, recurses := true, apart := false }
def FnBytesCanIterateSaid : Prop := fnBytesCanIterateRow.holds Efrg.pinned (OpenSpec.ofChange fnBytesCanIterateSpec)

/-- ITS FALSE NEIGHBOUR: 'it returns false'. Refute it at one input. -/
def fnBytesCanIterateWrong : ChangeSpec := { name := "fnBytesCanIterate", fn := fun _ => fun
  | [d] => { results := [.lit (.bool false)], args := [d] }
  | _ => none }
def FnBytesCanIterateWrongFalsely : Prop := fnBytesCanIterateRow.holds Efrg.pinned (OpenSpec.ofChange fnBytesCanIterateWrong)

end Rows
end Go.Proofs.Yoefrw

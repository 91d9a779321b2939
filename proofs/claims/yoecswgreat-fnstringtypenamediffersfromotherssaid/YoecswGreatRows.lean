/-
  No cell of these rows narrows 'for every input' (looked for: loops, veiled, ifaces, maps, wideKeys, modest, calm, conditions, laid).
  DERIVED. THE GIVEN ROWS OF THIS SEAT. 1 by the template 'for every input the law returns true; each argument reads behind the call as it read before'; 0 by the template 'total and deterministic' (their statements: YoecswGreatTotals.lean).
  GIVEN WITH THE SEED: the statements are not yours to turn. If you find one false, say at which input.
  Laid BY PROGRAM, IN A SANDBOX (cutbox-rows.mjs): the forced cells as the released guide's own fill.sh prints them over the translation 6b207793a5a45faa… (all of the seat's roots in one cut). By AI agents, Wed Nov 11 2026. No macro, syntax, notation, axiom, sorry.
-/
import Derived.Test.YoecswGreatChecked
import GoSem.Claim
import GoSem.ClaimJoined
import GoSem.ClaimMapViews
import Derived.JoinedTies
import Derived.KernelRfl
namespace Go.Proofs.YoecswGreat
/- THE CELL 'sum', in the pinned program and in every row, IS THE sha256 OF THE DUMP (.gsa) THAT YoecswGreatProg.lean LOADS. Nothing in Lean hashes anything: it is a label: what it is worth is what the hold of that sum in a sandbox is worth. -/
noncomputable def Ecsg.pinned : Pinned := { name := "yoecswgreat", sum := "6b207793a5a45faa8e2cfe49054ce0dcb1c2aa4ef839d9ba410ff1667159283a", checked := Ecsg.checked }
namespace Rows
def none {H : Type} : Left H := { results := [], args := [] }

/-- 'zzlaws_root_b3.FnStringTypeNameDiffersFromOthers': WHATEVER THE INPUT: true; the input reads as it did. -/
def fnStringTypeNameDiffersFromOthersSpec : ChangeSpec := { name := "fnStringTypeNameDiffersFromOthers", fn := fun _ => fun
  | [d1, d2] => { results := [.lit (.bool true)], args := [d1, d2] }
  | _ => none }
def fnStringTypeNameDiffersFromOthersRow : OpenClaim := { program := "yoecswgreat", sum := "6b207793a5a45faa8e2cfe49054ce0dcb1c2aa4ef839d9ba410ff1667159283a", func := "github.com/d5/tengo/v2/zzlaws_root_b3.FnStringTypeNameDiffersFromOthers", spec := "fnStringTypeNameDiffersFromOthers", apart := false }
def FnStringTypeNameDiffersFromOthersSaid : Prop := fnStringTypeNameDiffersFromOthersRow.holds Ecsg.pinned (OpenSpec.ofChange fnStringTypeNameDiffersFromOthersSpec)

/-- ITS FALSE NEIGHBOUR: 'it returns false'. Refute it at one input. -/
def fnStringTypeNameDiffersFromOthersWrong : ChangeSpec := { name := "fnStringTypeNameDiffersFromOthers", fn := fun _ => fun
  | [d1, d2] => { results := [.lit (.bool false)], args := [d1, d2] }
  | _ => none }
def FnStringTypeNameDiffersFromOthersWrongFalsely : Prop := fnStringTypeNameDiffersFromOthersRow.holds Ecsg.pinned (OpenSpec.ofChange fnStringTypeNameDiffersFromOthersWrong)

end Rows
end Go.Proofs.YoecswGreat

/-
  No cell of these rows narrows 'for every input' (looked for: loops, veiled, ifaces, maps, wideKeys, modest, calm, conditions, laid).
  DERIVED. THE GIVEN ROWS OF THIS SEAT. 4 by the template 'for every input the law returns true; each argument reads behind the call as it read before'; 0 by the template 'total and deterministic' (their statements: YoecswTotals.lean).
  GIVEN WITH THE SEED: the statements are not yours to turn. If you find one false, say at which input.
  Laid BY PROGRAM, IN A SANDBOX (cutbox-rows.mjs): the forced cells as the released guide's own fill.sh prints them over the translation a182a5572b1fefd2… (all of the seat's roots in one cut). By AI agents, Wed Nov 11 2026. No macro, syntax, notation, axiom, sorry.
-/
import Derived.Test.YoecswChecked
import GoSem.Claim
import GoSem.ClaimJoined
import GoSem.ClaimMapViews
import Derived.JoinedTies
import Derived.KernelRfl
namespace Go.Proofs.Yoecsw
/- THE CELL 'sum', in the pinned program and in every row, IS THE sha256 OF THE DUMP (.gsa) THAT YoecswProg.lean LOADS. Nothing in Lean hashes anything: it is a label: what it is worth is what the hold of that sum in a sandbox is worth. -/
noncomputable def Ecsg.pinned : Pinned := { name := "yoecsw", sum := "a182a5572b1fefd2b41b970121474f58853673abd7d1f4e121caad6ed1486661", checked := Ecsg.checked }
namespace Rows
def none {H : Type} : Left H := { results := [], args := [] }

/-- 'zzlaws_root_b3.FnObjectPtrIsFalsyExactlyWhenNoCell': WHATEVER THE INPUT: true; the input reads as it did. -/
def fnObjectPtrIsFalsyExactlyWhenNoCellSpec : ChangeSpec := { name := "fnObjectPtrIsFalsyExactlyWhenNoCell", fn := fun _ => fun
  | [d1, d2, d3, d4] => { results := [.lit (.bool true)], args := [d1, d2, d3, d4] }
  | _ => none }
def fnObjectPtrIsFalsyExactlyWhenNoCellRow : OpenClaim := { program := "yoecsw", sum := "a182a5572b1fefd2b41b970121474f58853673abd7d1f4e121caad6ed1486661", func := "github.com/d5/tengo/v2/zzlaws_root_b3.FnObjectPtrIsFalsyExactlyWhenNoCell", spec := "fnObjectPtrIsFalsyExactlyWhenNoCell", unfollowed := true, recurses := true, apart := false }
def FnObjectPtrIsFalsyExactlyWhenNoCellSaid : Prop := fnObjectPtrIsFalsyExactlyWhenNoCellRow.holds Ecsg.pinned (OpenSpec.ofChange fnObjectPtrIsFalsyExactlyWhenNoCellSpec)

/-- ITS FALSE NEIGHBOUR: 'it returns false'. Refute it at one input. -/
def fnObjectPtrIsFalsyExactlyWhenNoCellWrong : ChangeSpec := { name := "fnObjectPtrIsFalsyExactlyWhenNoCell", fn := fun _ => fun
  | [d1, d2, d3, d4] => { results := [.lit (.bool false)], args := [d1, d2, d3, d4] }
  | _ => none }
def FnObjectPtrIsFalsyExactlyWhenNoCellWrongFalsely : Prop := fnObjectPtrIsFalsyExactlyWhenNoCellRow.holds Ecsg.pinned (OpenSpec.ofChange fnObjectPtrIsFalsyExactlyWhenNoCellWrong)

/-- 'zzlaws_root_b3.FnObjectPtrIsFalsyFollowsThePointer': WHATEVER THE INPUT: true; the input reads as it did. -/
def fnObjectPtrIsFalsyFollowsThePointerSpec : ChangeSpec := { name := "fnObjectPtrIsFalsyFollowsThePointer", fn := fun _ => fun
  | [d1, d2, d3] => { results := [.lit (.bool true)], args := [d1, d2, d3] }
  | _ => none }
def fnObjectPtrIsFalsyFollowsThePointerRow : OpenClaim := { program := "yoecsw", sum := "a182a5572b1fefd2b41b970121474f58853673abd7d1f4e121caad6ed1486661", func := "github.com/d5/tengo/v2/zzlaws_root_b3.FnObjectPtrIsFalsyFollowsThePointer", spec := "fnObjectPtrIsFalsyFollowsThePointer", unfollowed := true, recurses := true, apart := false }
def FnObjectPtrIsFalsyFollowsThePointerSaid : Prop := fnObjectPtrIsFalsyFollowsThePointerRow.holds Ecsg.pinned (OpenSpec.ofChange fnObjectPtrIsFalsyFollowsThePointerSpec)

/-- ITS FALSE NEIGHBOUR: 'it returns false'. Refute it at one input. -/
def fnObjectPtrIsFalsyFollowsThePointerWrong : ChangeSpec := { name := "fnObjectPtrIsFalsyFollowsThePointer", fn := fun _ => fun
  | [d1, d2, d3] => { results := [.lit (.bool false)], args := [d1, d2, d3] }
  | _ => none }
def FnObjectPtrIsFalsyFollowsThePointerWrongFalsely : Prop := fnObjectPtrIsFalsyFollowsThePointerRow.holds Ecsg.pinned (OpenSpec.ofChange fnObjectPtrIsFalsyFollowsThePointerWrong)

/-- 'zzlaws_root_b3.FnObjectPtrEqualsIsIdentity': WHATEVER THE INPUT: true; the input reads as it did. -/
def fnObjectPtrEqualsIsIdentitySpec : ChangeSpec := { name := "fnObjectPtrEqualsIsIdentity", fn := fun _ => fun
  | [d1, d2, d3, d4] => { results := [.lit (.bool true)], args := [d1, d2, d3, d4] }
  | _ => none }
def fnObjectPtrEqualsIsIdentityRow : OpenClaim := { program := "yoecsw", sum := "a182a5572b1fefd2b41b970121474f58853673abd7d1f4e121caad6ed1486661", func := "github.com/d5/tengo/v2/zzlaws_root_b3.FnObjectPtrEqualsIsIdentity", spec := "fnObjectPtrEqualsIsIdentity", unfollowed := true, recurses := true, apart := false }
def FnObjectPtrEqualsIsIdentitySaid : Prop := fnObjectPtrEqualsIsIdentityRow.holds Ecsg.pinned (OpenSpec.ofChange fnObjectPtrEqualsIsIdentitySpec)

/-- ITS FALSE NEIGHBOUR: 'it returns false'. Refute it at one input. -/
def fnObjectPtrEqualsIsIdentityWrong : ChangeSpec := { name := "fnObjectPtrEqualsIsIdentity", fn := fun _ => fun
  | [d1, d2, d3, d4] => { results := [.lit (.bool false)], args := [d1, d2, d3, d4] }
  | _ => none }
def FnObjectPtrEqualsIsIdentityWrongFalsely : Prop := fnObjectPtrEqualsIsIdentityRow.holds Ecsg.pinned (OpenSpec.ofChange fnObjectPtrEqualsIsIdentityWrong)

/-- 'zzlaws_root_b3.FnObjectPtrEqualsNoOtherType': WHATEVER THE INPUT: true; the input reads as it did. -/
def fnObjectPtrEqualsNoOtherTypeSpec : ChangeSpec := { name := "fnObjectPtrEqualsNoOtherType", fn := fun _ => fun
  | [d1, d2, d3] => { results := [.lit (.bool true)], args := [d1, d2, d3] }
  | _ => none }
def fnObjectPtrEqualsNoOtherTypeRow : OpenClaim := { program := "yoecsw", sum := "a182a5572b1fefd2b41b970121474f58853673abd7d1f4e121caad6ed1486661", func := "github.com/d5/tengo/v2/zzlaws_root_b3.FnObjectPtrEqualsNoOtherType", spec := "fnObjectPtrEqualsNoOtherType", apart := false }
def FnObjectPtrEqualsNoOtherTypeSaid : Prop := fnObjectPtrEqualsNoOtherTypeRow.holds Ecsg.pinned (OpenSpec.ofChange fnObjectPtrEqualsNoOtherTypeSpec)

/-- ITS FALSE NEIGHBOUR: 'it returns false'. Refute it at one input. -/
def fnObjectPtrEqualsNoOtherTypeWrong : ChangeSpec := { name := "fnObjectPtrEqualsNoOtherType", fn := fun _ => fun
  | [d1, d2, d3] => { results := [.lit (.bool false)], args := [d1, d2, d3] }
  | _ => none }
def FnObjectPtrEqualsNoOtherTypeWrongFalsely : Prop := fnObjectPtrEqualsNoOtherTypeRow.holds Ecsg.pinned (OpenSpec.ofChange fnObjectPtrEqualsNoOtherTypeWrong)

end Rows
end Go.Proofs.Yoecsw

/-
  No cell of these rows narrows 'for every input' (looked for: loops, veiled, ifaces, maps, wideKeys, modest, calm, conditions, laid).
  DERIVED. THE GIVEN ROWS OF THIS SEAT. 2 by the template 'for every input the law returns true; each argument reads behind the call as it read before'; 0 by the template 'total and deterministic' (their statements: Qxb6603726aTotals.lean).
  GIVEN WITH THE SEED: the statements are not yours to turn. If you find one false, say at which input.
  Laid BY PROGRAM, IN A SANDBOX (cutbox-rows.mjs): the forced cells as the released guide's own fill.sh prints them over the translation 474a8a1f6f2d0242… (all of the seat's roots in one cut). By AI agents, Wed Nov 11 2026. No macro, syntax, notation, axiom, sorry.
-/
import Derived.Test.Qxb6603726aChecked
import GoSem.Claim
import GoSem.ClaimJoined
import GoSem.ClaimMapViews
import Derived.JoinedTies
import Derived.KernelRfl
namespace Go.Proofs.Qxb6603726a
/- THE CELL 'sum', in the pinned program and in every row, IS THE sha256 OF THE DUMP (.gsa) THAT Qxb6603726aProg.lean LOADS. Nothing in Lean hashes anything: it is a label: what it is worth is what the hold of that sum in a sandbox is worth. -/
noncomputable def Try.pinned : Pinned := { name := "qxb6603726a", sum := "474a8a1f6f2d024244f4af10b34bf89900c7618ac4941ee3283faf5367934b9b", checked := Try.checked }
namespace Rows
def none {H : Type} : Left H := { results := [], args := [] }

/-- 'zzlaws_root_b1.FnGroupMembers': WHATEVER THE INPUT: true; the input reads as it did. -/
def fnGroupMembersSpec : ChangeSpec := { name := "fnGroupMembers", fn := fun _ => fun
  | [d1, d2, d3, d4] => { results := [.lit (.bool true)], args := [d1, d2, d3, d4] }
  | _ => none }
def fnGroupMembersRow : OpenClaim := { program := "qxb6603726a", sum := "474a8a1f6f2d024244f4af10b34bf89900c7618ac4941ee3283faf5367934b9b", func := "example.com/bough/bough/zzlaws_root_b1.FnGroupMembers", spec := "fnGroupMembers", apart := false }
def FnGroupMembersSaid : Prop := fnGroupMembersRow.holds Try.pinned (OpenSpec.ofChange fnGroupMembersSpec)

/-- ITS FALSE NEIGHBOUR: 'it returns false'. Refute it at one input. -/
def fnGroupMembersWrong : ChangeSpec := { name := "fnGroupMembers", fn := fun _ => fun
  | [d1, d2, d3, d4] => { results := [.lit (.bool false)], args := [d1, d2, d3, d4] }
  | _ => none }
def FnGroupMembersWrongFalsely : Prop := fnGroupMembersRow.holds Try.pinned (OpenSpec.ofChange fnGroupMembersWrong)

/-- 'zzlaws_root_b1.FnGroupNested': WHATEVER THE INPUT: true; the input reads as it did. -/
def fnGroupNestedSpec : ChangeSpec := { name := "fnGroupNested", fn := fun _ => fun
  | [d1, d2] => { results := [.lit (.bool true)], args := [d1, d2] }
  | _ => none }
def fnGroupNestedRow : OpenClaim := { program := "qxb6603726a", sum := "474a8a1f6f2d024244f4af10b34bf89900c7618ac4941ee3283faf5367934b9b", func := "example.com/bough/bough/zzlaws_root_b1.FnGroupNested", spec := "fnGroupNested", apart := false }
def FnGroupNestedSaid : Prop := fnGroupNestedRow.holds Try.pinned (OpenSpec.ofChange fnGroupNestedSpec)

/-- ITS FALSE NEIGHBOUR: 'it returns false'. Refute it at one input. -/
def fnGroupNestedWrong : ChangeSpec := { name := "fnGroupNested", fn := fun _ => fun
  | [d1, d2] => { results := [.lit (.bool false)], args := [d1, d2] }
  | _ => none }
def FnGroupNestedWrongFalsely : Prop := fnGroupNestedRow.holds Try.pinned (OpenSpec.ofChange fnGroupNestedWrong)

end Rows
end Go.Proofs.Qxb6603726a

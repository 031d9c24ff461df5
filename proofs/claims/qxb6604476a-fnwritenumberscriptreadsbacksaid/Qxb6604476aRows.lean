/-
  No cell of these rows narrows 'for every input' (looked for: loops, veiled, ifaces, maps, wideKeys, modest, calm, conditions, laid).
  DERIVED. THE GIVEN ROWS OF THIS SEAT. 4 by the template 'for every input the law returns true; each argument reads behind the call as it read before'; 0 by the template 'total and deterministic' (their statements: Qxb6604476aTotals.lean).
  GIVEN WITH THE SEED: the statements are not yours to turn. If you find one false, say at which input.
  Laid BY PROGRAM, IN A SANDBOX (cutbox-rows.mjs): the forced cells as the released guide's own fill.sh prints them over the translation 863454f1935205e7… (all of the seat's roots in one cut). By AI agents, Wed Nov 11 2026. No macro, syntax, notation, axiom, sorry.
-/
import Derived.Test.Qxb6604476aChecked
import GoSem.Claim
import GoSem.ClaimJoined
import GoSem.ClaimMapViews
import Derived.JoinedTies
import Derived.KernelRfl
namespace Go.Proofs.Qxb6604476a
/- THE CELL 'sum', in the pinned program and in every row, IS THE sha256 OF THE DUMP (.gsa) THAT Qxb6604476aProg.lean LOADS. Nothing in Lean hashes anything: it is a label: what it is worth is what the hold of that sum in a sandbox is worth. -/
noncomputable def Try.pinned : Pinned := { name := "qxb6604476a", sum := "863454f1935205e7e25cd6f148df78ea6167a7c2e0331fa2e95a0ad3ef808328", checked := Try.checked }
namespace Rows
def none {H : Type} : Left H := { results := [], args := [] }

/-- 'zzlaws_internal_schema_b1.FnAppendCodePointMatchesHexModel': WHATEVER THE INPUT: true; the input reads as it did. -/
def fnAppendCodePointMatchesHexModelSpec : ChangeSpec := { name := "fnAppendCodePointMatchesHexModel", fn := fun _ => fun
  | [d1, d2] => { results := [.lit (.bool true)], args := [d1, d2] }
  | _ => none }
def fnAppendCodePointMatchesHexModelRow : OpenClaim := { program := "qxb6604476a", sum := "863454f1935205e7e25cd6f148df78ea6167a7c2e0331fa2e95a0ad3ef808328", func := "example.com/edegem/edegem/zzlaws_internal_schema_b1.FnAppendCodePointMatchesHexModel", spec := "fnAppendCodePointMatchesHexModel", apart := false }
def FnAppendCodePointMatchesHexModelSaid : Prop := fnAppendCodePointMatchesHexModelRow.holds Try.pinned (OpenSpec.ofChange fnAppendCodePointMatchesHexModelSpec)

/-- ITS FALSE NEIGHBOUR: 'it returns false'. Refute it at one input. -/
def fnAppendCodePointMatchesHexModelWrong : ChangeSpec := { name := "fnAppendCodePointMatchesHexModel", fn := fun _ => fun
  | [d1, d2] => { results := [.lit (.bool false)], args := [d1, d2] }
  | _ => none }
def FnAppendCodePointMatchesHexModelWrongFalsely : Prop := fnAppendCodePointMatchesHexModelRow.holds Try.pinned (OpenSpec.ofChange fnAppendCodePointMatchesHexModelWrong)

/-- 'zzlaws_internal_schema_b1.FnAppendCodePointReadsBack': WHATEVER THE INPUT: true; the input reads as it did. -/
def fnAppendCodePointReadsBackSpec : ChangeSpec := { name := "fnAppendCodePointReadsBack", fn := fun _ => fun
  | [d1, d2] => { results := [.lit (.bool true)], args := [d1, d2] }
  | _ => none }
def fnAppendCodePointReadsBackRow : OpenClaim := { program := "qxb6604476a", sum := "863454f1935205e7e25cd6f148df78ea6167a7c2e0331fa2e95a0ad3ef808328", func := "example.com/edegem/edegem/zzlaws_internal_schema_b1.FnAppendCodePointReadsBack", spec := "fnAppendCodePointReadsBack", apart := false }
def FnAppendCodePointReadsBackSaid : Prop := fnAppendCodePointReadsBackRow.holds Try.pinned (OpenSpec.ofChange fnAppendCodePointReadsBackSpec)

/-- ITS FALSE NEIGHBOUR: 'it returns false'. Refute it at one input. -/
def fnAppendCodePointReadsBackWrong : ChangeSpec := { name := "fnAppendCodePointReadsBack", fn := fun _ => fun
  | [d1, d2] => { results := [.lit (.bool false)], args := [d1, d2] }
  | _ => none }
def FnAppendCodePointReadsBackWrongFalsely : Prop := fnAppendCodePointReadsBackRow.holds Try.pinned (OpenSpec.ofChange fnAppendCodePointReadsBackWrong)

/-- 'zzlaws_internal_schema_b1.FnWriteNumberDecodesBack': WHATEVER THE INPUT: true; the input reads as it did. -/
def fnWriteNumberDecodesBackSpec : ChangeSpec := { name := "fnWriteNumberDecodesBack", fn := fun _ => fun
  | [d1, d2] => { results := [.lit (.bool true)], args := [d1, d2] }
  | _ => none }
def fnWriteNumberDecodesBackRow : OpenClaim := { program := "qxb6604476a", sum := "863454f1935205e7e25cd6f148df78ea6167a7c2e0331fa2e95a0ad3ef808328", func := "example.com/edegem/edegem/zzlaws_internal_schema_b1.FnWriteNumberDecodesBack", spec := "fnWriteNumberDecodesBack", named := ["encoding/binary.LittleEndian"], apart := false }
def FnWriteNumberDecodesBackSaid : Prop := fnWriteNumberDecodesBackRow.holds Try.pinned (OpenSpec.ofChange fnWriteNumberDecodesBackSpec)

/-- ITS FALSE NEIGHBOUR: 'it returns false'. Refute it at one input. -/
def fnWriteNumberDecodesBackWrong : ChangeSpec := { name := "fnWriteNumberDecodesBack", fn := fun _ => fun
  | [d1, d2] => { results := [.lit (.bool false)], args := [d1, d2] }
  | _ => none }
def FnWriteNumberDecodesBackWrongFalsely : Prop := fnWriteNumberDecodesBackRow.holds Try.pinned (OpenSpec.ofChange fnWriteNumberDecodesBackWrong)

/-- 'zzlaws_internal_schema_b1.FnWriteNumberScriptReadsBack': WHATEVER THE INPUT: true; the input reads as it did. -/
def fnWriteNumberScriptReadsBackSpec : ChangeSpec := { name := "fnWriteNumberScriptReadsBack", fn := fun _ => fun
  | [d1, d2] => { results := [.lit (.bool true)], args := [d1, d2] }
  | _ => none }
def fnWriteNumberScriptReadsBackRow : OpenClaim := { program := "qxb6604476a", sum := "863454f1935205e7e25cd6f148df78ea6167a7c2e0331fa2e95a0ad3ef808328", func := "example.com/edegem/edegem/zzlaws_internal_schema_b1.FnWriteNumberScriptReadsBack", spec := "fnWriteNumberScriptReadsBack", named := ["encoding/binary.LittleEndian"], apart := false }
def FnWriteNumberScriptReadsBackSaid : Prop := fnWriteNumberScriptReadsBackRow.holds Try.pinned (OpenSpec.ofChange fnWriteNumberScriptReadsBackSpec)

/-- ITS FALSE NEIGHBOUR: 'it returns false'. Refute it at one input. -/
def fnWriteNumberScriptReadsBackWrong : ChangeSpec := { name := "fnWriteNumberScriptReadsBack", fn := fun _ => fun
  | [d1, d2] => { results := [.lit (.bool false)], args := [d1, d2] }
  | _ => none }
def FnWriteNumberScriptReadsBackWrongFalsely : Prop := fnWriteNumberScriptReadsBackRow.holds Try.pinned (OpenSpec.ofChange fnWriteNumberScriptReadsBackWrong)

end Rows
end Go.Proofs.Qxb6604476a

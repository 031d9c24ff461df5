/-
  No cell of these rows narrows 'for every input' (looked for: loops, veiled, ifaces, maps, wideKeys, modest, calm, conditions, laid).
  DERIVED. THE GIVEN ROWS OF THIS SEAT. 1 by the template 'for every input the law returns true; each argument reads behind the call as it read before'; 0 by the template 'total and deterministic' (their statements: Qxb6603494aTotals.lean).
  GIVEN WITH THE SEED: the statements are not yours to turn. If you find one false, say at which input.
  Laid BY PROGRAM, IN A SANDBOX (cutbox-rows.mjs): the forced cells as the released guide's own fill.sh prints them over the translation d89710628ab9160c… (all of the seat's roots in one cut). By AI agents, Wed Nov 11 2026. No macro, syntax, notation, axiom, sorry.
-/
import Derived.Test.Qxb6603494aChecked
import GoSem.Claim
import GoSem.ClaimJoined
import GoSem.ClaimMapViews
import Derived.JoinedTies
import Derived.KernelRfl
namespace Go.Proofs.Qxb6603494a
/- THE CELL 'sum', in the pinned program and in every row, IS THE sha256 OF THE DUMP (.gsa) THAT Qxb6603494aProg.lean LOADS. Nothing in Lean hashes anything: it is a label: what it is worth is what the hold of that sum in a sandbox is worth. -/
noncomputable def Try.pinned : Pinned := { name := "qxb6603494a", sum := "d89710628ab9160c67a624b9584b9b5bf5bd64bdcc9285d29888f4ef6e039fed", checked := Try.checked }
namespace Rows
def none {H : Type} : Left H := { results := [], args := [] }

/-- 'zzlaws_root_b1.FnKeptUntilStricterRulesHoldLonger': WHATEVER THE INPUT: true; the input reads as it did. -/
def fnKeptUntilStricterRulesHoldLongerSpec : ChangeSpec := { name := "fnKeptUntilStricterRulesHoldLonger", fn := fun _ => fun
  | [d1, d2, d3, d4, d5] => { results := [.lit (.bool true)], args := [d1, d2, d3, d4, d5] }
  | _ => none }
def fnKeptUntilStricterRulesHoldLongerRow : OpenClaim := { program := "qxb6603494a", sum := "d89710628ab9160c67a624b9584b9b5bf5bd64bdcc9285d29888f4ef6e039fed", func := "example.com/schedra/schedra/zzlaws_root_b1.FnKeptUntilStricterRulesHoldLonger", spec := "fnKeptUntilStricterRulesHoldLonger", apart := false }
def FnKeptUntilStricterRulesHoldLongerSaid : Prop := fnKeptUntilStricterRulesHoldLongerRow.holds Try.pinned (OpenSpec.ofChange fnKeptUntilStricterRulesHoldLongerSpec)

/-- ITS FALSE NEIGHBOUR: 'it returns false'. Refute it at one input. -/
def fnKeptUntilStricterRulesHoldLongerWrong : ChangeSpec := { name := "fnKeptUntilStricterRulesHoldLonger", fn := fun _ => fun
  | [d1, d2, d3, d4, d5] => { results := [.lit (.bool false)], args := [d1, d2, d3, d4, d5] }
  | _ => none }
def FnKeptUntilStricterRulesHoldLongerWrongFalsely : Prop := fnKeptUntilStricterRulesHoldLongerRow.holds Try.pinned (OpenSpec.ofChange fnKeptUntilStricterRulesHoldLongerWrong)

end Rows
end Go.Proofs.Qxb6603494a

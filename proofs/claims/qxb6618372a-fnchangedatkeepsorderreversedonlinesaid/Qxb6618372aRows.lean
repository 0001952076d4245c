/-
  No cell of these rows narrows 'for every input' (looked for: loops, veiled, ifaces, maps, wideKeys, modest, calm, conditions, laid).
  DERIVED. THE GIVEN ROWS OF THIS SEAT. 2 by the template 'for every input the law returns true; each argument reads behind the call as it read before'; 0 by the template 'total and deterministic' (their statements: Qxb6618372aTotals.lean).
  GIVEN WITH THE SEED: the statements are not yours to turn. If you find one false, say at which input.
  Laid BY PROGRAM, IN A SANDBOX (cutbox-rows.mjs): the forced cells as the released guide's own fill.sh prints them over the translation ba83963c56067e6e… (all of the seat's roots in one cut). By AI agents, Wed Nov 11 2026. No macro, syntax, notation, axiom, sorry.
-/
import Derived.Test.Qxb6618372aChecked
import GoSem.Claim
import GoSem.ClaimJoined
import GoSem.ClaimMapViews
import Derived.JoinedTies
import Derived.KernelRfl
namespace Go.Proofs.Qxb6618372a
/- THE CELL 'sum', in the pinned program and in every row, IS THE sha256 OF THE DUMP (.gsa) THAT Qxb6618372aProg.lean LOADS. Nothing in Lean hashes anything: it is a label: what it is worth is what the hold of that sum in a sandbox is worth. -/
noncomputable def Try.pinned : Pinned := { name := "qxb6618372a", sum := "ba83963c56067e6e4256821224ed14cea116c7e99b7079ab095fb74c405bc585", checked := Try.checked }
namespace Rows
def none {H : Type} : Left H := { results := [], args := [] }

/-- 'zzlaws_root_b1.FnChangedAtStepsByOne': WHATEVER THE INPUT: true; the input reads as it did. -/
def fnChangedAtStepsByOneSpec : ChangeSpec := { name := "fnChangedAtStepsByOne", fn := fun _ => fun
  | [d] => { results := [.lit (.bool true)], args := [d] }
  | _ => none }
def fnChangedAtStepsByOneRow : OpenClaim := { program := "qxb6618372a", sum := "ba83963c56067e6e4256821224ed14cea116c7e99b7079ab095fb74c405bc585", func := "example.com/kakko/kakko/zzlaws_root_b1.FnChangedAtStepsByOne", spec := "fnChangedAtStepsByOne", apart := false }
def FnChangedAtStepsByOneSaid : Prop := fnChangedAtStepsByOneRow.holds Try.pinned (OpenSpec.ofChange fnChangedAtStepsByOneSpec)

/-- ITS FALSE NEIGHBOUR: 'it returns false'. Refute it at one input. -/
def fnChangedAtStepsByOneWrong : ChangeSpec := { name := "fnChangedAtStepsByOne", fn := fun _ => fun
  | [d] => { results := [.lit (.bool false)], args := [d] }
  | _ => none }
def FnChangedAtStepsByOneWrongFalsely : Prop := fnChangedAtStepsByOneRow.holds Try.pinned (OpenSpec.ofChange fnChangedAtStepsByOneWrong)

/-- 'zzlaws_root_b1.FnChangedAtKeepsOrderReversedOnLine': WHATEVER THE INPUT: true; the input reads as it did. -/
def fnChangedAtKeepsOrderReversedOnLineSpec : ChangeSpec := { name := "fnChangedAtKeepsOrderReversedOnLine", fn := fun _ => fun
  | [d1, d2] => { results := [.lit (.bool true)], args := [d1, d2] }
  | _ => none }
def fnChangedAtKeepsOrderReversedOnLineRow : OpenClaim := { program := "qxb6618372a", sum := "ba83963c56067e6e4256821224ed14cea116c7e99b7079ab095fb74c405bc585", func := "example.com/kakko/kakko/zzlaws_root_b1.FnChangedAtKeepsOrderReversedOnLine", spec := "fnChangedAtKeepsOrderReversedOnLine", apart := false }
def FnChangedAtKeepsOrderReversedOnLineSaid : Prop := fnChangedAtKeepsOrderReversedOnLineRow.holds Try.pinned (OpenSpec.ofChange fnChangedAtKeepsOrderReversedOnLineSpec)

/-- ITS FALSE NEIGHBOUR: 'it returns false'. Refute it at one input. -/
def fnChangedAtKeepsOrderReversedOnLineWrong : ChangeSpec := { name := "fnChangedAtKeepsOrderReversedOnLine", fn := fun _ => fun
  | [d1, d2] => { results := [.lit (.bool false)], args := [d1, d2] }
  | _ => none }
def FnChangedAtKeepsOrderReversedOnLineWrongFalsely : Prop := fnChangedAtKeepsOrderReversedOnLineRow.holds Try.pinned (OpenSpec.ofChange fnChangedAtKeepsOrderReversedOnLineWrong)

end Rows
end Go.Proofs.Qxb6618372a

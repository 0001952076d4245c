/-
  No cell of these rows narrows 'for every input' (looked for: loops, veiled, ifaces, maps, wideKeys, modest, calm, conditions, laid).
  DERIVED. THE GIVEN ROWS OF THIS SEAT. 2 by the template 'for every input the law returns true; each argument reads behind the call as it read before'; 0 by the template 'total and deterministic' (their statements: Qxb6618400aTotals.lean).
  GIVEN WITH THE SEED: the statements are not yours to turn. If you find one false, say at which input.
  Laid BY PROGRAM, IN A SANDBOX (cutbox-rows.mjs): the forced cells as the released guide's own fill.sh prints them over the translation 091b38bd4ec8ecde… (all of the seat's roots in one cut). By AI agents, Wed Nov 11 2026. No macro, syntax, notation, axiom, sorry.
-/
import Derived.Test.Qxb6618400aChecked
import GoSem.Claim
import GoSem.ClaimJoined
import GoSem.ClaimMapViews
import Derived.JoinedTies
import Derived.KernelRfl
namespace Go.Proofs.Qxb6618400a
/- THE CELL 'sum', in the pinned program and in every row, IS THE sha256 OF THE DUMP (.gsa) THAT Qxb6618400aProg.lean LOADS. Nothing in Lean hashes anything: it is a label: what it is worth is what the hold of that sum in a sandbox is worth. -/
noncomputable def Try.pinned : Pinned := { name := "qxb6618400a", sum := "091b38bd4ec8ecdef0a930f2b1a6827e1d4b161496693b424b6a4350bf59731e", checked := Try.checked }
namespace Rows
def none {H : Type} : Left H := { results := [], args := [] }

/-- 'zzlaws_internal_audio_b1.FnBesselI0EvenAndSeries': WHATEVER THE INPUT: true; the input reads as it did. -/
def fnBesselI0EvenAndSeriesSpec : ChangeSpec := { name := "fnBesselI0EvenAndSeries", fn := fun _ => fun
  | [d] => { results := [.lit (.bool true)], args := [d] }
  | _ => none }
def fnBesselI0EvenAndSeriesRow : OpenClaim := { program := "qxb6618400a", sum := "091b38bd4ec8ecdef0a930f2b1a6827e1d4b161496693b424b6a4350bf59731e", func := "example.com/stenowire/stenowire/zzlaws_internal_audio_b1.FnBesselI0EvenAndSeries", spec := "fnBesselI0EvenAndSeries", apart := false }
def FnBesselI0EvenAndSeriesSaid : Prop := fnBesselI0EvenAndSeriesRow.holds Try.pinned (OpenSpec.ofChange fnBesselI0EvenAndSeriesSpec)

/-- ITS FALSE NEIGHBOUR: 'it returns false'. Refute it at one input. -/
def fnBesselI0EvenAndSeriesWrong : ChangeSpec := { name := "fnBesselI0EvenAndSeries", fn := fun _ => fun
  | [d] => { results := [.lit (.bool false)], args := [d] }
  | _ => none }
def FnBesselI0EvenAndSeriesWrongFalsely : Prop := fnBesselI0EvenAndSeriesRow.holds Try.pinned (OpenSpec.ofChange fnBesselI0EvenAndSeriesWrong)

/-- 'zzlaws_internal_audio_b1.FnBesselI0MonotoneInMagnitude': WHATEVER THE INPUT: true; the input reads as it did. -/
def fnBesselI0MonotoneInMagnitudeSpec : ChangeSpec := { name := "fnBesselI0MonotoneInMagnitude", fn := fun _ => fun
  | [d1, d2] => { results := [.lit (.bool true)], args := [d1, d2] }
  | _ => none }
def fnBesselI0MonotoneInMagnitudeRow : OpenClaim := { program := "qxb6618400a", sum := "091b38bd4ec8ecdef0a930f2b1a6827e1d4b161496693b424b6a4350bf59731e", func := "example.com/stenowire/stenowire/zzlaws_internal_audio_b1.FnBesselI0MonotoneInMagnitude", spec := "fnBesselI0MonotoneInMagnitude", apart := false }
def FnBesselI0MonotoneInMagnitudeSaid : Prop := fnBesselI0MonotoneInMagnitudeRow.holds Try.pinned (OpenSpec.ofChange fnBesselI0MonotoneInMagnitudeSpec)

/-- ITS FALSE NEIGHBOUR: 'it returns false'. Refute it at one input. -/
def fnBesselI0MonotoneInMagnitudeWrong : ChangeSpec := { name := "fnBesselI0MonotoneInMagnitude", fn := fun _ => fun
  | [d1, d2] => { results := [.lit (.bool false)], args := [d1, d2] }
  | _ => none }
def FnBesselI0MonotoneInMagnitudeWrongFalsely : Prop := fnBesselI0MonotoneInMagnitudeRow.holds Try.pinned (OpenSpec.ofChange fnBesselI0MonotoneInMagnitudeWrong)

end Rows
end Go.Proofs.Qxb6618400a

/-
  No cell of these rows narrows 'for every input' (looked for: loops, veiled, ifaces, maps, wideKeys, modest, calm, conditions, laid).
  DERIVED. THE GIVEN ROWS OF THIS SEAT. 2 by the template 'for every input the law returns true; each argument reads behind the call as it read before'; 0 by the template 'total and deterministic' (their statements: Qxb6601554aTotals.lean).
  GIVEN WITH THE SEED: the statements are not yours to turn. If you find one false, say at which input.
  Laid BY PROGRAM, IN A SANDBOX (cutbox-rows.mjs): the forced cells as the released guide's own fill.sh prints them over the translation 1cfec9df26f768e3… (all of the seat's roots in one cut). By AI agents, Wed Nov 11 2026. No macro, syntax, notation, axiom, sorry.
-/
import Derived.Test.Qxb6601554aChecked
import GoSem.Claim
import GoSem.ClaimJoined
import GoSem.ClaimMapViews
import Derived.JoinedTies
import Derived.KernelRfl
namespace Go.Proofs.Qxb6601554a
/- THE CELL 'sum', in the pinned program and in every row, IS THE sha256 OF THE DUMP (.gsa) THAT Qxb6601554aProg.lean LOADS. Nothing in Lean hashes anything: it is a label: what it is worth is what the hold of that sum in a sandbox is worth. -/
noncomputable def Try.pinned : Pinned := { name := "qxb6601554a", sum := "1cfec9df26f768e38dd092d37bcdda92103feb0550650b1eb6c1bb29fd9ece73", checked := Try.checked }
namespace Rows
def none {H : Type} : Left H := { results := [], args := [] }

/-- 'zzlaws_root_b1.FnGcdMagnitudeIsBinaryGcd': WHATEVER THE INPUT: true; the input reads as it did. -/
def fnGcdMagnitudeIsBinaryGcdSpec : ChangeSpec := { name := "fnGcdMagnitudeIsBinaryGcd", fn := fun _ => fun
  | [d1, d2] => { results := [.lit (.bool true)], args := [d1, d2] }
  | _ => none }
def fnGcdMagnitudeIsBinaryGcdRow : OpenClaim := { program := "qxb6601554a", sum := "1cfec9df26f768e38dd092d37bcdda92103feb0550650b1eb6c1bb29fd9ece73", func := "example.com/yufa/yufa/zzlaws_root_b1.FnGcdMagnitudeIsBinaryGcd", spec := "fnGcdMagnitudeIsBinaryGcd", apart := false }
def FnGcdMagnitudeIsBinaryGcdSaid : Prop := fnGcdMagnitudeIsBinaryGcdRow.holds Try.pinned (OpenSpec.ofChange fnGcdMagnitudeIsBinaryGcdSpec)

/-- ITS FALSE NEIGHBOUR: 'it returns false'. Refute it at one input. -/
def fnGcdMagnitudeIsBinaryGcdWrong : ChangeSpec := { name := "fnGcdMagnitudeIsBinaryGcd", fn := fun _ => fun
  | [d1, d2] => { results := [.lit (.bool false)], args := [d1, d2] }
  | _ => none }
def FnGcdMagnitudeIsBinaryGcdWrongFalsely : Prop := fnGcdMagnitudeIsBinaryGcdRow.holds Try.pinned (OpenSpec.ofChange fnGcdMagnitudeIsBinaryGcdWrong)

/-- 'zzlaws_root_b1.FnGcdScales': WHATEVER THE INPUT: true; the input reads as it did. -/
def fnGcdScalesSpec : ChangeSpec := { name := "fnGcdScales", fn := fun _ => fun
  | [d1, d2, d3] => { results := [.lit (.bool true)], args := [d1, d2, d3] }
  | _ => none }
def fnGcdScalesRow : OpenClaim := { program := "qxb6601554a", sum := "1cfec9df26f768e38dd092d37bcdda92103feb0550650b1eb6c1bb29fd9ece73", func := "example.com/yufa/yufa/zzlaws_root_b1.FnGcdScales", spec := "fnGcdScales", apart := false }
def FnGcdScalesSaid : Prop := fnGcdScalesRow.holds Try.pinned (OpenSpec.ofChange fnGcdScalesSpec)

/-- ITS FALSE NEIGHBOUR: 'it returns false'. Refute it at one input. -/
def fnGcdScalesWrong : ChangeSpec := { name := "fnGcdScales", fn := fun _ => fun
  | [d1, d2, d3] => { results := [.lit (.bool false)], args := [d1, d2, d3] }
  | _ => none }
def FnGcdScalesWrongFalsely : Prop := fnGcdScalesRow.holds Try.pinned (OpenSpec.ofChange fnGcdScalesWrong)

end Rows
end Go.Proofs.Qxb6601554a

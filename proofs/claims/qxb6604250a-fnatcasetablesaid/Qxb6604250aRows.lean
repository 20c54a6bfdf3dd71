/-
  No cell of these rows narrows 'for every input' (looked for: loops, veiled, ifaces, maps, wideKeys, modest, calm, conditions, laid).
  DERIVED. THE GIVEN ROWS OF THIS SEAT. 3 by the template 'for every input the law returns true; each argument reads behind the call as it read before'; 0 by the template 'total and deterministic' (their statements: Qxb6604250aTotals.lean).
  GIVEN WITH THE SEED: the statements are not yours to turn. If you find one false, say at which input.
  Laid BY PROGRAM, IN A SANDBOX (cutbox-rows.mjs): the forced cells as the released guide's own fill.sh prints them over the translation 4cf0bd2e2d861676… (all of the seat's roots in one cut). By AI agents, Wed Nov 11 2026. No macro, syntax, notation, axiom, sorry.
-/
import Derived.Test.Qxb6604250aChecked
import GoSem.Claim
import GoSem.ClaimJoined
import GoSem.ClaimMapViews
import Derived.JoinedTies
import Derived.KernelRfl
namespace Go.Proofs.Qxb6604250a
/- THE CELL 'sum', in the pinned program and in every row, IS THE sha256 OF THE DUMP (.gsa) THAT Qxb6604250aProg.lean LOADS. Nothing in Lean hashes anything: it is a label: what it is worth is what the hold of that sum in a sandbox is worth. -/
noncomputable def Try.pinned : Pinned := { name := "qxb6604250a", sum := "4cf0bd2e2d86167697d4f09312bad3991d99bf579df6accc67424ed32e6c0b13", checked := Try.checked }
namespace Rows
def none {H : Type} : Left H := { results := [], args := [] }

/-- 'zzlaws_internal_trace_b1.FnAtCaseTable': WHATEVER THE INPUT: true; the input reads as it did. -/
def fnAtCaseTableSpec : ChangeSpec := { name := "fnAtCaseTable", fn := fun _ => fun
  | [d1, d2, d3] => { results := [.lit (.bool true)], args := [d1, d2, d3] }
  | _ => none }
def fnAtCaseTableRow : OpenClaim := { program := "qxb6604250a", sum := "4cf0bd2e2d86167697d4f09312bad3991d99bf579df6accc67424ed32e6c0b13", func := "example.com/roadwatch/roadwatch/zzlaws_internal_trace_b1.FnAtCaseTable", spec := "fnAtCaseTable", apart := false }
def FnAtCaseTableSaid : Prop := fnAtCaseTableRow.holds Try.pinned (OpenSpec.ofChange fnAtCaseTableSpec)

/-- ITS FALSE NEIGHBOUR: 'it returns false'. Refute it at one input. -/
def fnAtCaseTableWrong : ChangeSpec := { name := "fnAtCaseTable", fn := fun _ => fun
  | [d1, d2, d3] => { results := [.lit (.bool false)], args := [d1, d2, d3] }
  | _ => none }
def FnAtCaseTableWrongFalsely : Prop := fnAtCaseTableRow.holds Try.pinned (OpenSpec.ofChange fnAtCaseTableWrong)

/-- 'zzlaws_internal_trace_b1.FnAtMonotoneBetweenSamples': WHATEVER THE INPUT: true; the input reads as it did. -/
def fnAtMonotoneBetweenSamplesSpec : ChangeSpec := { name := "fnAtMonotoneBetweenSamples", fn := fun _ => fun
  | [d1, d2, d3, d4] => { results := [.lit (.bool true)], args := [d1, d2, d3, d4] }
  | _ => none }
def fnAtMonotoneBetweenSamplesRow : OpenClaim := { program := "qxb6604250a", sum := "4cf0bd2e2d86167697d4f09312bad3991d99bf579df6accc67424ed32e6c0b13", func := "example.com/roadwatch/roadwatch/zzlaws_internal_trace_b1.FnAtMonotoneBetweenSamples", spec := "fnAtMonotoneBetweenSamples", apart := false }
def FnAtMonotoneBetweenSamplesSaid : Prop := fnAtMonotoneBetweenSamplesRow.holds Try.pinned (OpenSpec.ofChange fnAtMonotoneBetweenSamplesSpec)

/-- ITS FALSE NEIGHBOUR: 'it returns false'. Refute it at one input. -/
def fnAtMonotoneBetweenSamplesWrong : ChangeSpec := { name := "fnAtMonotoneBetweenSamples", fn := fun _ => fun
  | [d1, d2, d3, d4] => { results := [.lit (.bool false)], args := [d1, d2, d3, d4] }
  | _ => none }
def FnAtMonotoneBetweenSamplesWrongFalsely : Prop := fnAtMonotoneBetweenSamplesRow.holds Try.pinned (OpenSpec.ofChange fnAtMonotoneBetweenSamplesWrong)

/-- 'zzlaws_internal_trace_b1.FnIDsAnswerIsFresh': WHATEVER THE INPUT: true; the input reads as it did. -/
def fnIDsAnswerIsFreshSpec : ChangeSpec := { name := "fnIDsAnswerIsFresh", fn := fun _ => fun
  | [d1, d2, d3] => { results := [.lit (.bool true)], args := [d1, d2, d3] }
  | _ => none }
def fnIDsAnswerIsFreshRow : OpenClaim := { program := "qxb6604250a", sum := "4cf0bd2e2d86167697d4f09312bad3991d99bf579df6accc67424ed32e6c0b13", func := "example.com/roadwatch/roadwatch/zzlaws_internal_trace_b1.FnIDsAnswerIsFresh", spec := "fnIDsAnswerIsFresh", apart := false }
def FnIDsAnswerIsFreshSaid : Prop := fnIDsAnswerIsFreshRow.holds Try.pinned (OpenSpec.ofChange fnIDsAnswerIsFreshSpec)

/-- ITS FALSE NEIGHBOUR: 'it returns false'. Refute it at one input. -/
def fnIDsAnswerIsFreshWrong : ChangeSpec := { name := "fnIDsAnswerIsFresh", fn := fun _ => fun
  | [d1, d2, d3] => { results := [.lit (.bool false)], args := [d1, d2, d3] }
  | _ => none }
def FnIDsAnswerIsFreshWrongFalsely : Prop := fnIDsAnswerIsFreshRow.holds Try.pinned (OpenSpec.ofChange fnIDsAnswerIsFreshWrong)

end Rows
end Go.Proofs.Qxb6604250a

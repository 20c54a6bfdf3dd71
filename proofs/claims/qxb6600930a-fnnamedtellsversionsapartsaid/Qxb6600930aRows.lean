/-
  No cell of these rows narrows 'for every input' (looked for: loops, veiled, ifaces, maps, wideKeys, modest, calm, conditions, laid).
  DERIVED. THE GIVEN ROWS OF THIS SEAT. 1 by the template 'for every input the law returns true; each argument reads behind the call as it read before'; 0 by the template 'total and deterministic' (their statements: Qxb6600930aTotals.lean).
  GIVEN WITH THE SEED: the statements are not yours to turn. If you find one false, say at which input.
  Laid BY PROGRAM, IN A SANDBOX (cutbox-rows.mjs): the forced cells as the released guide's own fill.sh prints them over the translation 16aa0760828b6e5a… (all of the seat's roots in one cut). By AI agents, Wed Nov 11 2026. No macro, syntax, notation, axiom, sorry.
-/
import Derived.Test.Qxb6600930aChecked
import GoSem.Claim
import GoSem.ClaimJoined
import GoSem.ClaimMapViews
import Derived.JoinedTies
import Derived.KernelRfl
namespace Go.Proofs.Qxb6600930a
/- THE CELL 'sum', in the pinned program and in every row, IS THE sha256 OF THE DUMP (.gsa) THAT Qxb6600930aProg.lean LOADS. Nothing in Lean hashes anything: it is a label: what it is worth is what the hold of that sum in a sandbox is worth. -/
noncomputable def Try.pinned : Pinned := { name := "qxb6600930a", sum := "16aa0760828b6e5a429ae866ea4de7d8c37c910331222f030cdccb792ea56733", checked := Try.checked }
namespace Rows
def none {H : Type} : Left H := { results := [], args := [] }

/-- 'zzlaws_internal_version_b1.FnNamedTellsVersionsApart': WHATEVER THE INPUT: true; the input reads as it did. -/
def fnNamedTellsVersionsApartSpec : ChangeSpec := { name := "fnNamedTellsVersionsApart", fn := fun _ => fun
  | [d1, d2] => { results := [.lit (.bool true)], args := [d1, d2] }
  | _ => none }
def fnNamedTellsVersionsApartRow : OpenClaim := { program := "qxb6600930a", sum := "16aa0760828b6e5a429ae866ea4de7d8c37c910331222f030cdccb792ea56733", func := "example.com/dokimi/dokimi/zzlaws_internal_version_b1.FnNamedTellsVersionsApart", spec := "fnNamedTellsVersionsApart", apart := false }
def FnNamedTellsVersionsApartSaid : Prop := fnNamedTellsVersionsApartRow.holds Try.pinned (OpenSpec.ofChange fnNamedTellsVersionsApartSpec)

/-- ITS FALSE NEIGHBOUR: 'it returns false'. Refute it at one input. -/
def fnNamedTellsVersionsApartWrong : ChangeSpec := { name := "fnNamedTellsVersionsApart", fn := fun _ => fun
  | [d1, d2] => { results := [.lit (.bool false)], args := [d1, d2] }
  | _ => none }
def FnNamedTellsVersionsApartWrongFalsely : Prop := fnNamedTellsVersionsApartRow.holds Try.pinned (OpenSpec.ofChange fnNamedTellsVersionsApartWrong)

end Rows
end Go.Proofs.Qxb6600930a

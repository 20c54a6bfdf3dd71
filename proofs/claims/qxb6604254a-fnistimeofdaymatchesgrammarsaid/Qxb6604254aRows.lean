/-
  No cell of these rows narrows 'for every input' (looked for: loops, veiled, ifaces, maps, wideKeys, modest, calm, conditions, laid).
  DERIVED. THE GIVEN ROWS OF THIS SEAT. 4 by the template 'for every input the law returns true; each argument reads behind the call as it read before'; 0 by the template 'total and deterministic' (their statements: Qxb6604254aTotals.lean).
  GIVEN WITH THE SEED: the statements are not yours to turn. If you find one false, say at which input.
  Laid BY PROGRAM, IN A SANDBOX (cutbox-rows.mjs): the forced cells as the released guide's own fill.sh prints them over the translation 9575f687d71ed583… (all of the seat's roots in one cut). By AI agents, Wed Nov 11 2026. No macro, syntax, notation, axiom, sorry.
-/
import Derived.Test.Qxb6604254aChecked
import GoSem.Claim
import GoSem.ClaimJoined
import GoSem.ClaimMapViews
import Derived.JoinedTies
import Derived.KernelRfl
namespace Go.Proofs.Qxb6604254a
/- THE CELL 'sum', in the pinned program and in every row, IS THE sha256 OF THE DUMP (.gsa) THAT Qxb6604254aProg.lean LOADS. Nothing in Lean hashes anything: it is a label: what it is worth is what the hold of that sum in a sandbox is worth. -/
noncomputable def Try.pinned : Pinned := { name := "qxb6604254a", sum := "9575f687d71ed5836dff9fab6defa5ebc44a84c5678a6b31b054d0b104c6f07e", checked := Try.checked }
namespace Rows
def none {H : Type} : Left H := { results := [], args := [] }

/-- 'zzlaws_root_b1.FnIsTimeOfDayMatchesGrammar': WHATEVER THE INPUT: true; the input reads as it did. -/
def fnIsTimeOfDayMatchesGrammarSpec : ChangeSpec := { name := "fnIsTimeOfDayMatchesGrammar", fn := fun _ => fun
  | [d] => { results := [.lit (.bool true)], args := [d] }
  | _ => none }
def fnIsTimeOfDayMatchesGrammarRow : OpenClaim := { program := "qxb6604254a", sum := "9575f687d71ed5836dff9fab6defa5ebc44a84c5678a6b31b054d0b104c6f07e", func := "example.com/siftline/siftline/zzlaws_root_b1.FnIsTimeOfDayMatchesGrammar", spec := "fnIsTimeOfDayMatchesGrammar", apart := false }
def FnIsTimeOfDayMatchesGrammarSaid : Prop := fnIsTimeOfDayMatchesGrammarRow.holds Try.pinned (OpenSpec.ofChange fnIsTimeOfDayMatchesGrammarSpec)

/-- ITS FALSE NEIGHBOUR: 'it returns false'. Refute it at one input. -/
def fnIsTimeOfDayMatchesGrammarWrong : ChangeSpec := { name := "fnIsTimeOfDayMatchesGrammar", fn := fun _ => fun
  | [d] => { results := [.lit (.bool false)], args := [d] }
  | _ => none }
def FnIsTimeOfDayMatchesGrammarWrongFalsely : Prop := fnIsTimeOfDayMatchesGrammarRow.holds Try.pinned (OpenSpec.ofChange fnIsTimeOfDayMatchesGrammarWrong)

/-- 'zzlaws_root_b1.FnIsTimeOfDayClockTable': WHATEVER THE INPUT: true; the input reads as it did. -/
def fnIsTimeOfDayClockTableSpec : ChangeSpec := { name := "fnIsTimeOfDayClockTable", fn := fun _ => fun
  | [d1, d2, d3, d4, d5, d6, d7, d8, d9, d10] => { results := [.lit (.bool true)], args := [d1, d2, d3, d4, d5, d6, d7, d8, d9, d10] }
  | _ => none }
def fnIsTimeOfDayClockTableRow : OpenClaim := { program := "qxb6604254a", sum := "9575f687d71ed5836dff9fab6defa5ebc44a84c5678a6b31b054d0b104c6f07e", func := "example.com/siftline/siftline/zzlaws_root_b1.FnIsTimeOfDayClockTable", spec := "fnIsTimeOfDayClockTable", apart := false }
def FnIsTimeOfDayClockTableSaid : Prop := fnIsTimeOfDayClockTableRow.holds Try.pinned (OpenSpec.ofChange fnIsTimeOfDayClockTableSpec)

/-- ITS FALSE NEIGHBOUR: 'it returns false'. Refute it at one input. -/
def fnIsTimeOfDayClockTableWrong : ChangeSpec := { name := "fnIsTimeOfDayClockTable", fn := fun _ => fun
  | [d1, d2, d3, d4, d5, d6, d7, d8, d9, d10] => { results := [.lit (.bool false)], args := [d1, d2, d3, d4, d5, d6, d7, d8, d9, d10] }
  | _ => none }
def FnIsTimeOfDayClockTableWrongFalsely : Prop := fnIsTimeOfDayClockTableRow.holds Try.pinned (OpenSpec.ofChange fnIsTimeOfDayClockTableWrong)

/-- 'zzlaws_root_b1.FnNormaliseAddressParts': WHATEVER THE INPUT: true; the input reads as it did. -/
def fnNormaliseAddressPartsSpec : ChangeSpec := { name := "fnNormaliseAddressParts", fn := fun _ => fun
  | [d1, d2, d3, d4, d5] => { results := [.lit (.bool true)], args := [d1, d2, d3, d4, d5] }
  | _ => none }
def fnNormaliseAddressPartsRow : OpenClaim := { program := "qxb6604254a", sum := "9575f687d71ed5836dff9fab6defa5ebc44a84c5678a6b31b054d0b104c6f07e", func := "example.com/siftline/siftline/zzlaws_root_b1.FnNormaliseAddressParts", spec := "fnNormaliseAddressParts", inPlace := ["internal/bytealg.IndexByteString", "internal/bytealg.IndexString"], named := ["internal/bytealg.MaxLen"], apart := false }
def FnNormaliseAddressPartsSaid : Prop := fnNormaliseAddressPartsRow.holds Try.pinned (OpenSpec.ofChange fnNormaliseAddressPartsSpec)

/-- ITS FALSE NEIGHBOUR: 'it returns false'. Refute it at one input. -/
def fnNormaliseAddressPartsWrong : ChangeSpec := { name := "fnNormaliseAddressParts", fn := fun _ => fun
  | [d1, d2, d3, d4, d5] => { results := [.lit (.bool false)], args := [d1, d2, d3, d4, d5] }
  | _ => none }
def FnNormaliseAddressPartsWrongFalsely : Prop := fnNormaliseAddressPartsRow.holds Try.pinned (OpenSpec.ofChange fnNormaliseAddressPartsWrong)

/-- 'zzlaws_root_b1.FnNormaliseAddressOnlyDeletes': WHATEVER THE INPUT: true; the input reads as it did. -/
def fnNormaliseAddressOnlyDeletesSpec : ChangeSpec := { name := "fnNormaliseAddressOnlyDeletes", fn := fun _ => fun
  | [d] => { results := [.lit (.bool true)], args := [d] }
  | _ => none }
def fnNormaliseAddressOnlyDeletesRow : OpenClaim := { program := "qxb6604254a", sum := "9575f687d71ed5836dff9fab6defa5ebc44a84c5678a6b31b054d0b104c6f07e", func := "example.com/siftline/siftline/zzlaws_root_b1.FnNormaliseAddressOnlyDeletes", spec := "fnNormaliseAddressOnlyDeletes", inPlace := ["internal/bytealg.IndexByteString", "internal/bytealg.IndexString"], named := ["internal/bytealg.MaxLen"], apart := false }
def FnNormaliseAddressOnlyDeletesSaid : Prop := fnNormaliseAddressOnlyDeletesRow.holds Try.pinned (OpenSpec.ofChange fnNormaliseAddressOnlyDeletesSpec)

/-- ITS FALSE NEIGHBOUR: 'it returns false'. Refute it at one input. -/
def fnNormaliseAddressOnlyDeletesWrong : ChangeSpec := { name := "fnNormaliseAddressOnlyDeletes", fn := fun _ => fun
  | [d] => { results := [.lit (.bool false)], args := [d] }
  | _ => none }
def FnNormaliseAddressOnlyDeletesWrongFalsely : Prop := fnNormaliseAddressOnlyDeletesRow.holds Try.pinned (OpenSpec.ofChange fnNormaliseAddressOnlyDeletesWrong)

end Rows
end Go.Proofs.Qxb6604254a

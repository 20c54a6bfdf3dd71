/-
  No cell of these rows narrows 'for every input' (looked for: loops, veiled, ifaces, maps, wideKeys, modest, calm, conditions, laid).
  DERIVED. THE GIVEN ROWS OF THIS SEAT. 3 by the template 'for every input the law returns true; each argument reads behind the call as it read before'; 0 by the template 'total and deterministic' (their statements: Qxb6604194aTotals.lean).
  GIVEN WITH THE SEED: the statements are not yours to turn. If you find one false, say at which input.
  Laid BY PROGRAM, IN A SANDBOX (cutbox-rows.mjs): the forced cells as the released guide's own fill.sh prints them over the translation db63b511cd01d4d2… (all of the seat's roots in one cut). By AI agents, Wed Nov 11 2026. No macro, syntax, notation, axiom, sorry.
-/
import Derived.Test.Qxb6604194aChecked
import GoSem.Claim
import GoSem.ClaimJoined
import GoSem.ClaimMapViews
import Derived.JoinedTies
import Derived.KernelRfl
namespace Go.Proofs.Qxb6604194a
/- THE CELL 'sum', in the pinned program and in every row, IS THE sha256 OF THE DUMP (.gsa) THAT Qxb6604194aProg.lean LOADS. Nothing in Lean hashes anything: it is a label: what it is worth is what the hold of that sum in a sandbox is worth. -/
noncomputable def Try.pinned : Pinned := { name := "qxb6604194a", sum := "db63b511cd01d4d2925779de59444c328f7deffa88eca66b28e888d3e2958365", checked := Try.checked }
namespace Rows
def none {H : Type} : Left H := { results := [], args := [] }

/-- 'zzlaws_explorer_b1.FnPeriodIsLcmCappedBySubscribers': WHATEVER THE INPUT: true; the input reads as it did. -/
def fnPeriodIsLcmCappedBySubscribersSpec : ChangeSpec := { name := "fnPeriodIsLcmCappedBySubscribers", fn := fun _ => fun
  | [d1, d2] => { results := [.lit (.bool true)], args := [d1, d2] }
  | _ => none }
def fnPeriodIsLcmCappedBySubscribersRow : OpenClaim := { program := "qxb6604194a", sum := "db63b511cd01d4d2925779de59444c328f7deffa88eca66b28e888d3e2958365", func := "example.com/attestra/attestra/zzlaws_explorer_b1.FnPeriodIsLcmCappedBySubscribers", spec := "fnPeriodIsLcmCappedBySubscribers", apart := false }
def FnPeriodIsLcmCappedBySubscribersSaid : Prop := fnPeriodIsLcmCappedBySubscribersRow.holds Try.pinned (OpenSpec.ofChange fnPeriodIsLcmCappedBySubscribersSpec)

/-- ITS FALSE NEIGHBOUR: 'it returns false'. Refute it at one input. -/
def fnPeriodIsLcmCappedBySubscribersWrong : ChangeSpec := { name := "fnPeriodIsLcmCappedBySubscribers", fn := fun _ => fun
  | [d1, d2] => { results := [.lit (.bool false)], args := [d1, d2] }
  | _ => none }
def FnPeriodIsLcmCappedBySubscribersWrongFalsely : Prop := fnPeriodIsLcmCappedBySubscribersRow.holds Try.pinned (OpenSpec.ofChange fnPeriodIsLcmCappedBySubscribersWrong)

/-- 'zzlaws_explorer_b1.FnPermutationsIsProductOfPeerClassFactorials': WHATEVER THE INPUT: true; the input reads as it did. -/
def fnPermutationsIsProductOfPeerClassFactorialsSpec : ChangeSpec := { name := "fnPermutationsIsProductOfPeerClassFactorials", fn := fun _ => fun
  | [d] => { results := [.lit (.bool true)], args := [d] }
  | _ => none }
def fnPermutationsIsProductOfPeerClassFactorialsRow : OpenClaim := { program := "qxb6604194a", sum := "db63b511cd01d4d2925779de59444c328f7deffa88eca66b28e888d3e2958365", func := "example.com/attestra/attestra/zzlaws_explorer_b1.FnPermutationsIsProductOfPeerClassFactorials", spec := "fnPermutationsIsProductOfPeerClassFactorials", apart := false }
def FnPermutationsIsProductOfPeerClassFactorialsSaid : Prop := fnPermutationsIsProductOfPeerClassFactorialsRow.holds Try.pinned (OpenSpec.ofChange fnPermutationsIsProductOfPeerClassFactorialsSpec)

/-- ITS FALSE NEIGHBOUR: 'it returns false'. Refute it at one input. -/
def fnPermutationsIsProductOfPeerClassFactorialsWrong : ChangeSpec := { name := "fnPermutationsIsProductOfPeerClassFactorials", fn := fun _ => fun
  | [d] => { results := [.lit (.bool false)], args := [d] }
  | _ => none }
def FnPermutationsIsProductOfPeerClassFactorialsWrongFalsely : Prop := fnPermutationsIsProductOfPeerClassFactorialsRow.holds Try.pinned (OpenSpec.ofChange fnPermutationsIsProductOfPeerClassFactorialsWrong)

/-- 'zzlaws_explorer_b1.FnPermutationsIsOneExactlyWithoutPeers': WHATEVER THE INPUT: true; the input reads as it did. -/
def fnPermutationsIsOneExactlyWithoutPeersSpec : ChangeSpec := { name := "fnPermutationsIsOneExactlyWithoutPeers", fn := fun _ => fun
  | [d] => { results := [.lit (.bool true)], args := [d] }
  | _ => none }
def fnPermutationsIsOneExactlyWithoutPeersRow : OpenClaim := { program := "qxb6604194a", sum := "db63b511cd01d4d2925779de59444c328f7deffa88eca66b28e888d3e2958365", func := "example.com/attestra/attestra/zzlaws_explorer_b1.FnPermutationsIsOneExactlyWithoutPeers", spec := "fnPermutationsIsOneExactlyWithoutPeers", apart := false }
def FnPermutationsIsOneExactlyWithoutPeersSaid : Prop := fnPermutationsIsOneExactlyWithoutPeersRow.holds Try.pinned (OpenSpec.ofChange fnPermutationsIsOneExactlyWithoutPeersSpec)

/-- ITS FALSE NEIGHBOUR: 'it returns false'. Refute it at one input. -/
def fnPermutationsIsOneExactlyWithoutPeersWrong : ChangeSpec := { name := "fnPermutationsIsOneExactlyWithoutPeers", fn := fun _ => fun
  | [d] => { results := [.lit (.bool false)], args := [d] }
  | _ => none }
def FnPermutationsIsOneExactlyWithoutPeersWrongFalsely : Prop := fnPermutationsIsOneExactlyWithoutPeersRow.holds Try.pinned (OpenSpec.ofChange fnPermutationsIsOneExactlyWithoutPeersWrong)

end Rows
end Go.Proofs.Qxb6604194a

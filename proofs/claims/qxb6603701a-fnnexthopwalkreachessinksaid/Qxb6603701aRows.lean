/-
  No cell of these rows narrows 'for every input' (looked for: loops, veiled, ifaces, maps, wideKeys, modest, calm, conditions, laid).
  DERIVED. THE GIVEN ROWS OF THIS SEAT. 5 by the template 'for every input the law returns true; each argument reads behind the call as it read before'; 0 by the template 'total and deterministic' (their statements: Qxb6603701aTotals.lean).
  GIVEN WITH THE SEED: the statements are not yours to turn. If you find one false, say at which input.
  Laid BY PROGRAM, IN A SANDBOX (cutbox-rows.mjs): the forced cells as the released guide's own fill.sh prints them over the translation 7f6746c362657efa… (all of the seat's roots in one cut). By AI agents, Wed Nov 11 2026. No macro, syntax, notation, axiom, sorry.
-/
import Derived.Test.Qxb6603701aChecked
import GoSem.Claim
import GoSem.ClaimJoined
import GoSem.ClaimMapViews
import Derived.JoinedTies
import Derived.KernelRfl
namespace Go.Proofs.Qxb6603701a
/- THE CELL 'sum', in the pinned program and in every row, IS THE sha256 OF THE DUMP (.gsa) THAT Qxb6603701aProg.lean LOADS. Nothing in Lean hashes anything: it is a label: what it is worth is what the hold of that sum in a sandbox is worth. -/
noncomputable def Try.pinned : Pinned := { name := "qxb6603701a", sum := "7f6746c362657efab69af6adcf1474b0f546915dc4534ca4d9fea71aae7d24e7", checked := Try.checked }
namespace Rows
def none {H : Type} : Left H := { results := [], args := [] }

/-- 'zzlaws_internal_ring_b1.FnEntriesMatchesModel': WHATEVER THE INPUT: true; the input reads as it did. -/
def fnEntriesMatchesModelSpec : ChangeSpec := { name := "fnEntriesMatchesModel", fn := fun _ => fun
  | [d1, d2, d3] => { results := [.lit (.bool true)], args := [d1, d2, d3] }
  | _ => none }
def fnEntriesMatchesModelRow : OpenClaim := { program := "qxb6603701a", sum := "7f6746c362657efab69af6adcf1474b0f546915dc4534ca4d9fea71aae7d24e7", func := "example.com/ringwalk/ringwalk/zzlaws_internal_ring_b1.FnEntriesMatchesModel", spec := "fnEntriesMatchesModel", apart := false }
def FnEntriesMatchesModelSaid : Prop := fnEntriesMatchesModelRow.holds Try.pinned (OpenSpec.ofChange fnEntriesMatchesModelSpec)

/-- ITS FALSE NEIGHBOUR: 'it returns false'. Refute it at one input. -/
def fnEntriesMatchesModelWrong : ChangeSpec := { name := "fnEntriesMatchesModel", fn := fun _ => fun
  | [d1, d2, d3] => { results := [.lit (.bool false)], args := [d1, d2, d3] }
  | _ => none }
def FnEntriesMatchesModelWrongFalsely : Prop := fnEntriesMatchesModelRow.holds Try.pinned (OpenSpec.ofChange fnEntriesMatchesModelWrong)

/-- 'zzlaws_internal_ring_b1.FnEntriesRotation': WHATEVER THE INPUT: true; the input reads as it did. -/
def fnEntriesRotationSpec : ChangeSpec := { name := "fnEntriesRotation", fn := fun _ => fun
  | [d1, d2, d3] => { results := [.lit (.bool true)], args := [d1, d2, d3] }
  | _ => none }
def fnEntriesRotationRow : OpenClaim := { program := "qxb6603701a", sum := "7f6746c362657efab69af6adcf1474b0f546915dc4534ca4d9fea71aae7d24e7", func := "example.com/ringwalk/ringwalk/zzlaws_internal_ring_b1.FnEntriesRotation", spec := "fnEntriesRotation", apart := false }
def FnEntriesRotationSaid : Prop := fnEntriesRotationRow.holds Try.pinned (OpenSpec.ofChange fnEntriesRotationSpec)

/-- ITS FALSE NEIGHBOUR: 'it returns false'. Refute it at one input. -/
def fnEntriesRotationWrong : ChangeSpec := { name := "fnEntriesRotation", fn := fun _ => fun
  | [d1, d2, d3] => { results := [.lit (.bool false)], args := [d1, d2, d3] }
  | _ => none }
def FnEntriesRotationWrongFalsely : Prop := fnEntriesRotationRow.holds Try.pinned (OpenSpec.ofChange fnEntriesRotationWrong)

/-- 'zzlaws_internal_ring_b1.FnNextHopMatchesModel': WHATEVER THE INPUT: true; the input reads as it did. -/
def fnNextHopMatchesModelSpec : ChangeSpec := { name := "fnNextHopMatchesModel", fn := fun _ => fun
  | [d1, d2, d3] => { results := [.lit (.bool true)], args := [d1, d2, d3] }
  | _ => none }
def fnNextHopMatchesModelRow : OpenClaim := { program := "qxb6603701a", sum := "7f6746c362657efab69af6adcf1474b0f546915dc4534ca4d9fea71aae7d24e7", func := "example.com/ringwalk/ringwalk/zzlaws_internal_ring_b1.FnNextHopMatchesModel", spec := "fnNextHopMatchesModel", apart := false }
def FnNextHopMatchesModelSaid : Prop := fnNextHopMatchesModelRow.holds Try.pinned (OpenSpec.ofChange fnNextHopMatchesModelSpec)

/-- ITS FALSE NEIGHBOUR: 'it returns false'. Refute it at one input. -/
def fnNextHopMatchesModelWrong : ChangeSpec := { name := "fnNextHopMatchesModel", fn := fun _ => fun
  | [d1, d2, d3] => { results := [.lit (.bool false)], args := [d1, d2, d3] }
  | _ => none }
def FnNextHopMatchesModelWrongFalsely : Prop := fnNextHopMatchesModelRow.holds Try.pinned (OpenSpec.ofChange fnNextHopMatchesModelWrong)

/-- 'zzlaws_internal_ring_b1.FnNextHopFullRingLargestPowerOfTwo': WHATEVER THE INPUT: true; the input reads as it did. -/
def fnNextHopFullRingLargestPowerOfTwoSpec : ChangeSpec := { name := "fnNextHopFullRingLargestPowerOfTwo", fn := fun _ => fun
  | [d1, d2] => { results := [.lit (.bool true)], args := [d1, d2] }
  | _ => none }
def fnNextHopFullRingLargestPowerOfTwoRow : OpenClaim := { program := "qxb6603701a", sum := "7f6746c362657efab69af6adcf1474b0f546915dc4534ca4d9fea71aae7d24e7", func := "example.com/ringwalk/ringwalk/zzlaws_internal_ring_b1.FnNextHopFullRingLargestPowerOfTwo", spec := "fnNextHopFullRingLargestPowerOfTwo", apart := false }
def FnNextHopFullRingLargestPowerOfTwoSaid : Prop := fnNextHopFullRingLargestPowerOfTwoRow.holds Try.pinned (OpenSpec.ofChange fnNextHopFullRingLargestPowerOfTwoSpec)

/-- ITS FALSE NEIGHBOUR: 'it returns false'. Refute it at one input. -/
def fnNextHopFullRingLargestPowerOfTwoWrong : ChangeSpec := { name := "fnNextHopFullRingLargestPowerOfTwo", fn := fun _ => fun
  | [d1, d2] => { results := [.lit (.bool false)], args := [d1, d2] }
  | _ => none }
def FnNextHopFullRingLargestPowerOfTwoWrongFalsely : Prop := fnNextHopFullRingLargestPowerOfTwoRow.holds Try.pinned (OpenSpec.ofChange fnNextHopFullRingLargestPowerOfTwoWrong)

/-- 'zzlaws_internal_ring_b1.FnNextHopWalkReachesSink': WHATEVER THE INPUT: true; the input reads as it did. -/
def fnNextHopWalkReachesSinkSpec : ChangeSpec := { name := "fnNextHopWalkReachesSink", fn := fun _ => fun
  | [d1, d2] => { results := [.lit (.bool true)], args := [d1, d2] }
  | _ => none }
def fnNextHopWalkReachesSinkRow : OpenClaim := { program := "qxb6603701a", sum := "7f6746c362657efab69af6adcf1474b0f546915dc4534ca4d9fea71aae7d24e7", func := "example.com/ringwalk/ringwalk/zzlaws_internal_ring_b1.FnNextHopWalkReachesSink", spec := "fnNextHopWalkReachesSink", apart := false }
def FnNextHopWalkReachesSinkSaid : Prop := fnNextHopWalkReachesSinkRow.holds Try.pinned (OpenSpec.ofChange fnNextHopWalkReachesSinkSpec)

/-- ITS FALSE NEIGHBOUR: 'it returns false'. Refute it at one input. -/
def fnNextHopWalkReachesSinkWrong : ChangeSpec := { name := "fnNextHopWalkReachesSink", fn := fun _ => fun
  | [d1, d2] => { results := [.lit (.bool false)], args := [d1, d2] }
  | _ => none }
def FnNextHopWalkReachesSinkWrongFalsely : Prop := fnNextHopWalkReachesSinkRow.holds Try.pinned (OpenSpec.ofChange fnNextHopWalkReachesSinkWrong)

end Rows
end Go.Proofs.Qxb6603701a

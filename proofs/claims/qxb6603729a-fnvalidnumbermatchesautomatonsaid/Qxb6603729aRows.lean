/-
  No cell of these rows narrows 'for every input' (looked for: loops, veiled, ifaces, maps, wideKeys, modest, calm, conditions, laid).
  DERIVED. THE GIVEN ROWS OF THIS SEAT. 1 by the template 'for every input the law returns true; each argument reads behind the call as it read before'; 0 by the template 'total and deterministic' (their statements: Qxb6603729aTotals.lean).
  GIVEN WITH THE SEED: the statements are not yours to turn. If you find one false, say at which input.
  Laid BY PROGRAM, IN A SANDBOX (cutbox-rows.mjs): the forced cells as the released guide's own fill.sh prints them over the translation 4aa0c2133de1fc26… (all of the seat's roots in one cut). By AI agents, Wed Nov 11 2026. No macro, syntax, notation, axiom, sorry.
-/
import Derived.Test.Qxb6603729aChecked
import GoSem.Claim
import GoSem.ClaimJoined
import GoSem.ClaimMapViews
import Derived.JoinedTies
import Derived.KernelRfl
namespace Go.Proofs.Qxb6603729a
/- THE CELL 'sum', in the pinned program and in every row, IS THE sha256 OF THE DUMP (.gsa) THAT Qxb6603729aProg.lean LOADS. Nothing in Lean hashes anything: it is a label: what it is worth is what the hold of that sum in a sandbox is worth. -/
noncomputable def Try.pinned : Pinned := { name := "qxb6603729a", sum := "4aa0c2133de1fc26302a793886dc0113a6ac1ec0bb31806f6848bad3a7ddb5b7", checked := Try.checked }
namespace Rows
def none {H : Type} : Left H := { results := [], args := [] }

/-- 'zzlaws_internal_record_b1.FnValidNumberMatchesAutomaton': WHATEVER THE INPUT: true; the input reads as it did. -/
def fnValidNumberMatchesAutomatonSpec : ChangeSpec := { name := "fnValidNumberMatchesAutomaton", fn := fun _ => fun
  | [d] => { results := [.lit (.bool true)], args := [d] }
  | _ => none }
def fnValidNumberMatchesAutomatonRow : OpenClaim := { program := "qxb6603729a", sum := "4aa0c2133de1fc26302a793886dc0113a6ac1ec0bb31806f6848bad3a7ddb5b7", func := "example.com/fathomline/fathomline/zzlaws_internal_record_b1.FnValidNumberMatchesAutomaton", spec := "fnValidNumberMatchesAutomaton", unfollowed := true, recurses := true, apart := false }
def FnValidNumberMatchesAutomatonSaid : Prop := fnValidNumberMatchesAutomatonRow.holds Try.pinned (OpenSpec.ofChange fnValidNumberMatchesAutomatonSpec)

/-- ITS FALSE NEIGHBOUR: 'it returns false'. Refute it at one input. -/
def fnValidNumberMatchesAutomatonWrong : ChangeSpec := { name := "fnValidNumberMatchesAutomaton", fn := fun _ => fun
  | [d] => { results := [.lit (.bool false)], args := [d] }
  | _ => none }
def FnValidNumberMatchesAutomatonWrongFalsely : Prop := fnValidNumberMatchesAutomatonRow.holds Try.pinned (OpenSpec.ofChange fnValidNumberMatchesAutomatonWrong)

end Rows
end Go.Proofs.Qxb6603729a

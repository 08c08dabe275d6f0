/-
  No cell of these rows narrows 'for every input' (looked for: loops, veiled, ifaces, maps, wideKeys, modest, calm, conditions, laid).
  DERIVED. THE GIVEN ROWS OF THIS SEAT. 3 by the template 'for every input the law returns true; each argument reads behind the call as it read before'; 0 by the template 'total and deterministic' (their statements: Qxb6613411aTotals.lean).
  GIVEN WITH THE SEED: the statements are not yours to turn. If you find one false, say at which input.
  Laid BY PROGRAM, IN A SANDBOX (cutbox-rows.mjs): the forced cells as the released guide's own fill.sh prints them over the translation d1aeb70410b6c334… (all of the seat's roots in one cut). By AI agents, Wed Nov 11 2026. No macro, syntax, notation, axiom, sorry.
-/
import Derived.Test.Qxb6613411aChecked
import GoSem.Claim
import GoSem.ClaimJoined
import GoSem.ClaimMapViews
import Derived.JoinedTies
import Derived.KernelRfl
namespace Go.Proofs.Qxb6613411a
/- THE CELL 'sum', in the pinned program and in every row, IS THE sha256 OF THE DUMP (.gsa) THAT Qxb6613411aProg.lean LOADS. Nothing in Lean hashes anything: it is a label: what it is worth is what the hold of that sum in a sandbox is worth. -/
noncomputable def Try.pinned : Pinned := { name := "qxb6613411a", sum := "d1aeb70410b6c334d47f1db27ada3c138d937326ce7514d73eba29ef44895c47", checked := Try.checked }
namespace Rows
def none {H : Type} : Left H := { results := [], args := [] }

/-- 'zzlaws_root_b1.FnInfoRoundTrip': WHATEVER THE INPUT: true; the input reads as it did. -/
def fnInfoRoundTripSpec : ChangeSpec := { name := "fnInfoRoundTrip", fn := fun _ => fun
  | [d1, d2, d3, d4] => { results := [.lit (.bool true)], args := [d1, d2, d3, d4] }
  | _ => none }
def fnInfoRoundTripRow : OpenClaim := { program := "qxb6613411a", sum := "d1aeb70410b6c334d47f1db27ada3c138d937326ce7514d73eba29ef44895c47", func := "example.com/bough/bough/zzlaws_root_b1.FnInfoRoundTrip", spec := "fnInfoRoundTrip", apart := false }
def FnInfoRoundTripSaid : Prop := fnInfoRoundTripRow.holds Try.pinned (OpenSpec.ofChange fnInfoRoundTripSpec)

/-- ITS FALSE NEIGHBOUR: 'it returns false'. Refute it at one input. -/
def fnInfoRoundTripWrong : ChangeSpec := { name := "fnInfoRoundTrip", fn := fun _ => fun
  | [d1, d2, d3, d4] => { results := [.lit (.bool false)], args := [d1, d2, d3, d4] }
  | _ => none }
def FnInfoRoundTripWrongFalsely : Prop := fnInfoRoundTripRow.holds Try.pinned (OpenSpec.ofChange fnInfoRoundTripWrong)

/-- 'zzlaws_root_b1.FnInfoDefaultTypeAndRunning': WHATEVER THE INPUT: true; the input reads as it did. -/
def fnInfoDefaultTypeAndRunningSpec : ChangeSpec := { name := "fnInfoDefaultTypeAndRunning", fn := fun _ => fun
  | [d1, d2, d3] => { results := [.lit (.bool true)], args := [d1, d2, d3] }
  | _ => none }
def fnInfoDefaultTypeAndRunningRow : OpenClaim := { program := "qxb6613411a", sum := "d1aeb70410b6c334d47f1db27ada3c138d937326ce7514d73eba29ef44895c47", func := "example.com/bough/bough/zzlaws_root_b1.FnInfoDefaultTypeAndRunning", spec := "fnInfoDefaultTypeAndRunning", apart := false }
def FnInfoDefaultTypeAndRunningSaid : Prop := fnInfoDefaultTypeAndRunningRow.holds Try.pinned (OpenSpec.ofChange fnInfoDefaultTypeAndRunningSpec)

/-- ITS FALSE NEIGHBOUR: 'it returns false'. Refute it at one input. -/
def fnInfoDefaultTypeAndRunningWrong : ChangeSpec := { name := "fnInfoDefaultTypeAndRunning", fn := fun _ => fun
  | [d1, d2, d3] => { results := [.lit (.bool false)], args := [d1, d2, d3] }
  | _ => none }
def FnInfoDefaultTypeAndRunningWrongFalsely : Prop := fnInfoDefaultTypeAndRunningRow.holds Try.pinned (OpenSpec.ofChange fnInfoDefaultTypeAndRunningWrong)

/-- 'zzlaws_root_b1.FnAutoShutdownValidIsTheNamedThree': WHATEVER THE INPUT: true; the input reads as it did. -/
def fnAutoShutdownValidIsTheNamedThreeSpec : ChangeSpec := { name := "fnAutoShutdownValidIsTheNamedThree", fn := fun _ => fun
  | [d] => { results := [.lit (.bool true)], args := [d] }
  | _ => none }
def fnAutoShutdownValidIsTheNamedThreeRow : OpenClaim := { program := "qxb6613411a", sum := "d1aeb70410b6c334d47f1db27ada3c138d937326ce7514d73eba29ef44895c47", func := "example.com/bough/bough/zzlaws_root_b1.FnAutoShutdownValidIsTheNamedThree", spec := "fnAutoShutdownValidIsTheNamedThree", apart := false }
def FnAutoShutdownValidIsTheNamedThreeSaid : Prop := fnAutoShutdownValidIsTheNamedThreeRow.holds Try.pinned (OpenSpec.ofChange fnAutoShutdownValidIsTheNamedThreeSpec)

/-- ITS FALSE NEIGHBOUR: 'it returns false'. Refute it at one input. -/
def fnAutoShutdownValidIsTheNamedThreeWrong : ChangeSpec := { name := "fnAutoShutdownValidIsTheNamedThree", fn := fun _ => fun
  | [d] => { results := [.lit (.bool false)], args := [d] }
  | _ => none }
def FnAutoShutdownValidIsTheNamedThreeWrongFalsely : Prop := fnAutoShutdownValidIsTheNamedThreeRow.holds Try.pinned (OpenSpec.ofChange fnAutoShutdownValidIsTheNamedThreeWrong)

end Rows
end Go.Proofs.Qxb6613411a

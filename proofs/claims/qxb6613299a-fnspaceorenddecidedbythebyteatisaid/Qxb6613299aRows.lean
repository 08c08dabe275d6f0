/-
  No cell of these rows narrows 'for every input' (looked for: loops, veiled, ifaces, maps, wideKeys, modest, calm, conditions, laid).
  DERIVED. THE GIVEN ROWS OF THIS SEAT. 2 by the template 'for every input the law returns true; each argument reads behind the call as it read before'; 0 by the template 'total and deterministic' (their statements: Qxb6613299aTotals.lean).
  GIVEN WITH THE SEED: the statements are not yours to turn. If you find one false, say at which input.
  Laid BY PROGRAM, IN A SANDBOX (cutbox-rows.mjs): the forced cells as the released guide's own fill.sh prints them over the translation e803e63a46251a40… (all of the seat's roots in one cut). By AI agents, Wed Nov 11 2026. No macro, syntax, notation, axiom, sorry.
-/
import Derived.Test.Qxb6613299aChecked
import GoSem.Claim
import GoSem.ClaimJoined
import GoSem.ClaimMapViews
import Derived.JoinedTies
import Derived.KernelRfl
namespace Go.Proofs.Qxb6613299a
/- THE CELL 'sum', in the pinned program and in every row, IS THE sha256 OF THE DUMP (.gsa) THAT Qxb6613299aProg.lean LOADS. Nothing in Lean hashes anything: it is a label: what it is worth is what the hold of that sum in a sandbox is worth. -/
noncomputable def Try.pinned : Pinned := { name := "qxb6613299a", sum := "e803e63a46251a40b255e3729f0a2112dfdcb68619c75787e5616b8473ce49b3", checked := Try.checked }
namespace Rows
def none {H : Type} : Left H := { results := [], args := [] }

/-- 'zzlaws_internal_input_b1.FnSpaceOrEndDecidedByTheByteAtI': WHATEVER THE INPUT: true; the input reads as it did. -/
def fnSpaceOrEndDecidedByTheByteAtISpec : ChangeSpec := { name := "fnSpaceOrEndDecidedByTheByteAtI", fn := fun _ => fun
  | [d1, d2, d3, d4, d5, d6, d7, d8] => { results := [.lit (.bool true)], args := [d1, d2, d3, d4, d5, d6, d7, d8] }
  | _ => none }
def fnSpaceOrEndDecidedByTheByteAtIRow : OpenClaim := { program := "qxb6613299a", sum := "e803e63a46251a40b255e3729f0a2112dfdcb68619c75787e5616b8473ce49b3", func := "example.com/tuoguan/tuoguan/zzlaws_internal_input_b1.FnSpaceOrEndDecidedByTheByteAtI", spec := "fnSpaceOrEndDecidedByTheByteAtI", apart := false }
def FnSpaceOrEndDecidedByTheByteAtISaid : Prop := fnSpaceOrEndDecidedByTheByteAtIRow.holds Try.pinned (OpenSpec.ofChange fnSpaceOrEndDecidedByTheByteAtISpec)

/-- ITS FALSE NEIGHBOUR: 'it returns false'. Refute it at one input. -/
def fnSpaceOrEndDecidedByTheByteAtIWrong : ChangeSpec := { name := "fnSpaceOrEndDecidedByTheByteAtI", fn := fun _ => fun
  | [d1, d2, d3, d4, d5, d6, d7, d8] => { results := [.lit (.bool false)], args := [d1, d2, d3, d4, d5, d6, d7, d8] }
  | _ => none }
def FnSpaceOrEndDecidedByTheByteAtIWrongFalsely : Prop := fnSpaceOrEndDecidedByTheByteAtIRow.holds Try.pinned (OpenSpec.ofChange fnSpaceOrEndDecidedByTheByteAtIWrong)

/-- 'zzlaws_internal_input_b1.FnSpaceOrEndJoinAtAnyCut': WHATEVER THE INPUT: true; the input reads as it did. -/
def fnSpaceOrEndJoinAtAnyCutSpec : ChangeSpec := { name := "fnSpaceOrEndJoinAtAnyCut", fn := fun _ => fun
  | [d1, d2, d3, d4, d5] => { results := [.lit (.bool true)], args := [d1, d2, d3, d4, d5] }
  | _ => none }
def fnSpaceOrEndJoinAtAnyCutRow : OpenClaim := { program := "qxb6613299a", sum := "e803e63a46251a40b255e3729f0a2112dfdcb68619c75787e5616b8473ce49b3", func := "example.com/tuoguan/tuoguan/zzlaws_internal_input_b1.FnSpaceOrEndJoinAtAnyCut", spec := "fnSpaceOrEndJoinAtAnyCut", apart := false }
def FnSpaceOrEndJoinAtAnyCutSaid : Prop := fnSpaceOrEndJoinAtAnyCutRow.holds Try.pinned (OpenSpec.ofChange fnSpaceOrEndJoinAtAnyCutSpec)

/-- ITS FALSE NEIGHBOUR: 'it returns false'. Refute it at one input. -/
def fnSpaceOrEndJoinAtAnyCutWrong : ChangeSpec := { name := "fnSpaceOrEndJoinAtAnyCut", fn := fun _ => fun
  | [d1, d2, d3, d4, d5] => { results := [.lit (.bool false)], args := [d1, d2, d3, d4, d5] }
  | _ => none }
def FnSpaceOrEndJoinAtAnyCutWrongFalsely : Prop := fnSpaceOrEndJoinAtAnyCutRow.holds Try.pinned (OpenSpec.ofChange fnSpaceOrEndJoinAtAnyCutWrong)

end Rows
end Go.Proofs.Qxb6613299a

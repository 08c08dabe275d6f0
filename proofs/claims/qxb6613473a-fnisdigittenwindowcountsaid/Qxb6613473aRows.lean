/-
  No cell of these rows narrows 'for every input' (looked for: loops, veiled, ifaces, maps, wideKeys, modest, calm, conditions, laid).
  DERIVED. THE GIVEN ROWS OF THIS SEAT. 1 by the template 'for every input the law returns true; each argument reads behind the call as it read before'; 0 by the template 'total and deterministic' (their statements: Qxb6613473aTotals.lean).
  GIVEN WITH THE SEED: the statements are not yours to turn. If you find one false, say at which input.
  Laid BY PROGRAM, IN A SANDBOX (cutbox-rows.mjs): the forced cells as the released guide's own fill.sh prints them over the translation 6d0bd88ab96a8427… (all of the seat's roots in one cut). By AI agents, Wed Nov 11 2026. No macro, syntax, notation, axiom, sorry.
-/
import Derived.Test.Qxb6613473aChecked
import GoSem.Claim
import GoSem.ClaimJoined
import GoSem.ClaimMapViews
import Derived.JoinedTies
import Derived.KernelRfl
namespace Go.Proofs.Qxb6613473a
/- THE CELL 'sum', in the pinned program and in every row, IS THE sha256 OF THE DUMP (.gsa) THAT Qxb6613473aProg.lean LOADS. Nothing in Lean hashes anything: it is a label: what it is worth is what the hold of that sum in a sandbox is worth. -/
noncomputable def Try.pinned : Pinned := { name := "qxb6613473a", sum := "6d0bd88ab96a8427f304300433020ce0273a0d31389bd1f310b7534c239804a7", checked := Try.checked }
namespace Rows
def none {H : Type} : Left H := { results := [], args := [] }

/-- 'zzlaws_pkg_txlog_b1.FnIsDigitTenWindowCount': WHATEVER THE INPUT: true; the input reads as it did. -/
def fnIsDigitTenWindowCountSpec : ChangeSpec := { name := "fnIsDigitTenWindowCount", fn := fun _ => fun
  | [d] => { results := [.lit (.bool true)], args := [d] }
  | _ => none }
def fnIsDigitTenWindowCountRow : OpenClaim := { program := "qxb6613473a", sum := "6d0bd88ab96a8427f304300433020ce0273a0d31389bd1f310b7534c239804a7", func := "example.com/pelorus-delivery/pelorus-delivery/zzlaws_pkg_txlog_b1.FnIsDigitTenWindowCount", spec := "fnIsDigitTenWindowCount", apart := false }
def FnIsDigitTenWindowCountSaid : Prop := fnIsDigitTenWindowCountRow.holds Try.pinned (OpenSpec.ofChange fnIsDigitTenWindowCountSpec)

/-- ITS FALSE NEIGHBOUR: 'it returns false'. Refute it at one input. -/
def fnIsDigitTenWindowCountWrong : ChangeSpec := { name := "fnIsDigitTenWindowCount", fn := fun _ => fun
  | [d] => { results := [.lit (.bool false)], args := [d] }
  | _ => none }
def FnIsDigitTenWindowCountWrongFalsely : Prop := fnIsDigitTenWindowCountRow.holds Try.pinned (OpenSpec.ofChange fnIsDigitTenWindowCountWrong)

end Rows
end Go.Proofs.Qxb6613473a

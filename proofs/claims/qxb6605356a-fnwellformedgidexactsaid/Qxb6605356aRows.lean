/-
  No cell of these rows narrows 'for every input' (looked for: loops, veiled, ifaces, maps, wideKeys, modest, calm, conditions, laid).
  DERIVED. THE GIVEN ROWS OF THIS SEAT. 1 by the template 'for every input the law returns true; each argument reads behind the call as it read before'; 0 by the template 'total and deterministic' (their statements: Qxb6605356aTotals.lean).
  GIVEN WITH THE SEED: the statements are not yours to turn. If you find one false, say at which input.
  Laid BY PROGRAM, IN A SANDBOX (cutbox-rows.mjs): the forced cells as the released guide's own fill.sh prints them over the translation 28765137eedffd54… (all of the seat's roots in one cut). By AI agents, Wed Nov 11 2026. No macro, syntax, notation, axiom, sorry.
-/
import Derived.Test.Qxb6605356aChecked
import GoSem.Claim
import GoSem.ClaimJoined
import GoSem.ClaimMapViews
import Derived.JoinedTies
import Derived.KernelRfl
namespace Go.Proofs.Qxb6605356a
/- THE CELL 'sum', in the pinned program and in every row, IS THE sha256 OF THE DUMP (.gsa) THAT Qxb6605356aProg.lean LOADS. Nothing in Lean hashes anything: it is a label: what it is worth is what the hold of that sum in a sandbox is worth. -/
noncomputable def Try.pinned : Pinned := { name := "qxb6605356a", sum := "28765137eedffd54548abd0474afd5835a046c021e0a856ec2c04364fee29de3", checked := Try.checked }
namespace Rows
def none {H : Type} : Left H := { results := [], args := [] }

/-- 'zzlaws_coordinator_b1.FnWellFormedGidExact': WHATEVER THE INPUT: true; the input reads as it did. -/
def fnWellFormedGidExactSpec : ChangeSpec := { name := "fnWellFormedGidExact", fn := fun _ => fun
  | [d] => { results := [.lit (.bool true)], args := [d] }
  | _ => none }
def fnWellFormedGidExactRow : OpenClaim := { program := "qxb6605356a", sum := "28765137eedffd54548abd0474afd5835a046c021e0a856ec2c04364fee29de3", func := "example.com/tenon/tenon/zzlaws_coordinator_b1.FnWellFormedGidExact", spec := "fnWellFormedGidExact", apart := false }
def FnWellFormedGidExactSaid : Prop := fnWellFormedGidExactRow.holds Try.pinned (OpenSpec.ofChange fnWellFormedGidExactSpec)

/-- ITS FALSE NEIGHBOUR: 'it returns false'. Refute it at one input. -/
def fnWellFormedGidExactWrong : ChangeSpec := { name := "fnWellFormedGidExact", fn := fun _ => fun
  | [d] => { results := [.lit (.bool false)], args := [d] }
  | _ => none }
def FnWellFormedGidExactWrongFalsely : Prop := fnWellFormedGidExactRow.holds Try.pinned (OpenSpec.ofChange fnWellFormedGidExactWrong)

end Rows
end Go.Proofs.Qxb6605356a

/-
  No cell of these rows narrows 'for every input' (looked for: loops, veiled, ifaces, maps, wideKeys, modest, calm, conditions, laid).
  DERIVED. THE GIVEN ROWS OF THIS SEAT. 1 by the template 'for every input the law returns true; each argument reads behind the call as it read before'; 0 by the template 'total and deterministic' (their statements: YoeclwTotals.lean).
  GIVEN WITH THE SEED: the statements are not yours to turn. If you find one false, say at which input.
  Laid BY PROGRAM, IN A SANDBOX (cutbox-rows.mjs): the forced cells as the released guide's own fill.sh prints them over the translation ed99007c7ceb1b60… (all of the seat's roots in one cut). By AI agents, Wed Nov 11 2026. No macro, syntax, notation, axiom, sorry.
-/
import Derived.Test.YoeclwChecked
import GoSem.Claim
import GoSem.ClaimJoined
import GoSem.ClaimMapViews
import Derived.JoinedTies
import Derived.KernelRfl
namespace Go.Proofs.Yoeclw
/- THE CELL 'sum', in the pinned program and in every row, IS THE sha256 OF THE DUMP (.gsa) THAT YoeclwProg.lean LOADS. Nothing in Lean hashes anything: it is a label: what it is worth is what the hold of that sum in a sandbox is worth. -/
noncomputable def Eclg.pinned : Pinned := { name := "yoeclw", sum := "ed99007c7ceb1b60e9686e6232714aed0ef181ecd5dfb1d1d205eb8645d26fd1", checked := Eclg.checked }
namespace Rows
def none {H : Type} : Left H := { results := [], args := [] }

/-- 'zzlaws_root_b1.FnBytesAliasing': WHATEVER THE INPUT: true; the input reads as it did. -/
def fnBytesAliasingSpec : ChangeSpec := { name := "fnBytesAliasing", fn := fun _ => fun
  | [d1, d2, d3] => { results := [.lit (.bool true)], args := [d1, d2, d3] }
  | _ => none }
def fnBytesAliasingRow : OpenClaim := { program := "yoeclw", sum := "ed99007c7ceb1b60e9686e6232714aed0ef181ecd5dfb1d1d205eb8645d26fd1", func := "github.com/d5/tengo/v2/zzlaws_root_b1.FnBytesAliasing", spec := "fnBytesAliasing", apart := false }
def FnBytesAliasingSaid : Prop := fnBytesAliasingRow.holds Eclg.pinned (OpenSpec.ofChange fnBytesAliasingSpec)

/-- ITS FALSE NEIGHBOUR: 'it returns false'. Refute it at one input. -/
def fnBytesAliasingWrong : ChangeSpec := { name := "fnBytesAliasing", fn := fun _ => fun
  | [d1, d2, d3] => { results := [.lit (.bool false)], args := [d1, d2, d3] }
  | _ => none }
def FnBytesAliasingWrongFalsely : Prop := fnBytesAliasingRow.holds Eclg.pinned (OpenSpec.ofChange fnBytesAliasingWrong)

end Rows
end Go.Proofs.Yoeclw

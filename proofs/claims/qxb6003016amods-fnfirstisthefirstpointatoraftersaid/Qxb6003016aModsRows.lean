/-
  No cell of these rows narrows 'for every input' (looked for: loops, veiled, ifaces, maps, wideKeys, modest, calm, conditions, laid).
  DERIVED. THE GIVEN ROWS OF THIS SEAT. 1 by the template 'for every input the law returns true; each argument reads behind the call as it read before'; 0 by the template 'total and deterministic' (their statements: Qxb6003016aModsTotals.lean).
  GIVEN WITH THE SEED: the statements are not yours to turn. If you find one false, say at which input.
  Laid BY PROGRAM, IN A SANDBOX (cutbox-rows.mjs): the forced cells as the released guide's own fill.sh prints them over the translation 5c9903de140bc479… (all of the seat's roots in one cut). By AI agents, Wed Nov 11 2026. No macro, syntax, notation, axiom, sorry.
-/
import Derived.Test.Qxb6003016aModsChecked
import GoSem.Claim
import GoSem.ClaimJoined
import GoSem.ClaimMapViews
import Derived.JoinedTies
import Derived.KernelRfl
namespace Go.Proofs.Qxb6003016aMods
/- THE CELL 'sum', in the pinned program and in every row, IS THE sha256 OF THE DUMP (.gsa) THAT Qxb6003016aModsProg.lean LOADS. Nothing in Lean hashes anything: it is a label: what it is worth is what the hold of that sum in a sandbox is worth. -/
noncomputable def Trym.pinned : Pinned := { name := "qxb6003016amods", sum := "5c9903de140bc4794b3e7e90fbf5580e6febbc88890f61b84d538f6d44641c99", checked := Trym.checked }
namespace Rows
def none {H : Type} : Left H := { results := [], args := [] }

/-- 'zzlaws_root_b1.FnFirstIsTheFirstPointAtOrAfter': WHATEVER THE INPUT: true; the input reads as it did. -/
def fnFirstIsTheFirstPointAtOrAfterSpec : ChangeSpec := { name := "fnFirstIsTheFirstPointAtOrAfter", fn := fun _ => fun
  | [d1, d2, d3, d4, d5] => { results := [.lit (.bool true)], args := [d1, d2, d3, d4, d5] }
  | _ => none }
def fnFirstIsTheFirstPointAtOrAfterRow : OpenClaim := { program := "qxb6003016amods", sum := "5c9903de140bc4794b3e7e90fbf5580e6febbc88890f61b84d538f6d44641c99", func := "example.com/steady-ring/steady-ring/zzlaws_root_b1.FnFirstIsTheFirstPointAtOrAfter", spec := "fnFirstIsTheFirstPointAtOrAfter", make := .lifted ["publicsums"], apart := false }
def FnFirstIsTheFirstPointAtOrAfterSaid : Prop := fnFirstIsTheFirstPointAtOrAfterRow.holds Trym.pinned (OpenSpec.ofChange fnFirstIsTheFirstPointAtOrAfterSpec)

/-- ITS FALSE NEIGHBOUR: 'it returns false'. Refute it at one input. -/
def fnFirstIsTheFirstPointAtOrAfterWrong : ChangeSpec := { name := "fnFirstIsTheFirstPointAtOrAfter", fn := fun _ => fun
  | [d1, d2, d3, d4, d5] => { results := [.lit (.bool false)], args := [d1, d2, d3, d4, d5] }
  | _ => none }
def FnFirstIsTheFirstPointAtOrAfterWrongFalsely : Prop := fnFirstIsTheFirstPointAtOrAfterRow.holds Trym.pinned (OpenSpec.ofChange fnFirstIsTheFirstPointAtOrAfterWrong)

end Rows
end Go.Proofs.Qxb6003016aMods

/-
  No cell of these rows narrows 'for every input' (looked for: loops, veiled, ifaces, maps, wideKeys, modest, calm, conditions, laid).
  DERIVED. THE GIVEN ROWS OF THIS SEAT. 8 by the template 'for every input the law returns true; each argument reads behind the call as it read before'; 0 by the template 'total and deterministic' (their statements: Qxb6600466aModsTotals.lean).
  GIVEN WITH THE SEED: the statements are not yours to turn. If you find one false, say at which input.
  Laid BY PROGRAM, IN A SANDBOX (cutbox-rows.mjs): the forced cells as the released guide's own fill.sh prints them over the translation 3f62e5f6f5b7e4df… (all of the seat's roots in one cut). By AI agents, Wed Nov 11 2026. No macro, syntax, notation, axiom, sorry.
-/
import Derived.Test.Qxb6600466aModsChecked
import GoSem.Claim
import GoSem.ClaimJoined
import GoSem.ClaimMapViews
import Derived.JoinedTies
import Derived.KernelRfl
namespace Go.Proofs.Qxb6600466aMods
/- THE CELL 'sum', in the pinned program and in every row, IS THE sha256 OF THE DUMP (.gsa) THAT Qxb6600466aModsProg.lean LOADS. Nothing in Lean hashes anything: it is a label: what it is worth is what the hold of that sum in a sandbox is worth. -/
noncomputable def Trym.pinned : Pinned := { name := "qxb6600466amods", sum := "3f62e5f6f5b7e4dfc86ed6e9f05be75ba682b3ffa6726e29122368f89ddb2b42", checked := Trym.checked }
namespace Rows
def none {H : Type} : Left H := { results := [], args := [] }

/-- 'zzlaws_root_b1.FnHexPrefixSpec': WHATEVER THE INPUT: true; the input reads as it did. -/
def fnHexPrefixSpecSpec : ChangeSpec := { name := "fnHexPrefixSpec", fn := fun _ => fun
  | [d1, d2] => { results := [.lit (.bool true)], args := [d1, d2] }
  | _ => none }
def fnHexPrefixSpecRow : OpenClaim := { program := "qxb6600466amods", sum := "3f62e5f6f5b7e4dfc86ed6e9f05be75ba682b3ffa6726e29122368f89ddb2b42", func := "example.com/rootward/rootward/zzlaws_root_b1.FnHexPrefixSpec", spec := "fnHexPrefixSpec", make := .lifted ["publicsums"], apart := false }
def FnHexPrefixSpecSaid : Prop := fnHexPrefixSpecRow.holds Trym.pinned (OpenSpec.ofChange fnHexPrefixSpecSpec)

/-- ITS FALSE NEIGHBOUR: 'it returns false'. Refute it at one input. -/
def fnHexPrefixSpecWrong : ChangeSpec := { name := "fnHexPrefixSpec", fn := fun _ => fun
  | [d1, d2] => { results := [.lit (.bool false)], args := [d1, d2] }
  | _ => none }
def FnHexPrefixSpecWrongFalsely : Prop := fnHexPrefixSpecRow.holds Trym.pinned (OpenSpec.ofChange fnHexPrefixSpecWrong)

/-- 'zzlaws_root_b1.FnHexPrefixInjective': WHATEVER THE INPUT: true; the input reads as it did. -/
def fnHexPrefixInjectiveSpec : ChangeSpec := { name := "fnHexPrefixInjective", fn := fun _ => fun
  | [d1, d2, d3, d4] => { results := [.lit (.bool true)], args := [d1, d2, d3, d4] }
  | _ => none }
def fnHexPrefixInjectiveRow : OpenClaim := { program := "qxb6600466amods", sum := "3f62e5f6f5b7e4dfc86ed6e9f05be75ba682b3ffa6726e29122368f89ddb2b42", func := "example.com/rootward/rootward/zzlaws_root_b1.FnHexPrefixInjective", spec := "fnHexPrefixInjective", make := .lifted ["publicsums"], apart := false }
def FnHexPrefixInjectiveSaid : Prop := fnHexPrefixInjectiveRow.holds Trym.pinned (OpenSpec.ofChange fnHexPrefixInjectiveSpec)

/-- ITS FALSE NEIGHBOUR: 'it returns false'. Refute it at one input. -/
def fnHexPrefixInjectiveWrong : ChangeSpec := { name := "fnHexPrefixInjective", fn := fun _ => fun
  | [d1, d2, d3, d4] => { results := [.lit (.bool false)], args := [d1, d2, d3, d4] }
  | _ => none }
def FnHexPrefixInjectiveWrongFalsely : Prop := fnHexPrefixInjectiveRow.holds Trym.pinned (OpenSpec.ofChange fnHexPrefixInjectiveWrong)

/-- 'zzlaws_root_b1.FnHexPrefixPathReadBack': WHATEVER THE INPUT: true; the input reads as it did. -/
def fnHexPrefixPathReadBackSpec : ChangeSpec := { name := "fnHexPrefixPathReadBack", fn := fun _ => fun
  | [d1, d2] => { results := [.lit (.bool true)], args := [d1, d2] }
  | _ => none }
def fnHexPrefixPathReadBackRow : OpenClaim := { program := "qxb6600466amods", sum := "3f62e5f6f5b7e4dfc86ed6e9f05be75ba682b3ffa6726e29122368f89ddb2b42", func := "example.com/rootward/rootward/zzlaws_root_b1.FnHexPrefixPathReadBack", spec := "fnHexPrefixPathReadBack", make := .lifted ["publicsums"], apart := false }
def FnHexPrefixPathReadBackSaid : Prop := fnHexPrefixPathReadBackRow.holds Trym.pinned (OpenSpec.ofChange fnHexPrefixPathReadBackSpec)

/-- ITS FALSE NEIGHBOUR: 'it returns false'. Refute it at one input. -/
def fnHexPrefixPathReadBackWrong : ChangeSpec := { name := "fnHexPrefixPathReadBack", fn := fun _ => fun
  | [d1, d2] => { results := [.lit (.bool false)], args := [d1, d2] }
  | _ => none }
def FnHexPrefixPathReadBackWrongFalsely : Prop := fnHexPrefixPathReadBackRow.holds Trym.pinned (OpenSpec.ofChange fnHexPrefixPathReadBackWrong)

/-- 'zzlaws_root_b1.FnNibblesAreSpec': WHATEVER THE INPUT: true; the input reads as it did. -/
def fnNibblesAreSpecSpec : ChangeSpec := { name := "fnNibblesAreSpec", fn := fun _ => fun
  | [d1, d2, d3, d4] => { results := [.lit (.bool true)], args := [d1, d2, d3, d4] }
  | _ => none }
def fnNibblesAreSpecRow : OpenClaim := { program := "qxb6600466amods", sum := "3f62e5f6f5b7e4dfc86ed6e9f05be75ba682b3ffa6726e29122368f89ddb2b42", func := "example.com/rootward/rootward/zzlaws_root_b1.FnNibblesAreSpec", spec := "fnNibblesAreSpec", make := .lifted ["publicsums"], apart := false }
def FnNibblesAreSpecSaid : Prop := fnNibblesAreSpecRow.holds Trym.pinned (OpenSpec.ofChange fnNibblesAreSpecSpec)

/-- ITS FALSE NEIGHBOUR: 'it returns false'. Refute it at one input. -/
def fnNibblesAreSpecWrong : ChangeSpec := { name := "fnNibblesAreSpec", fn := fun _ => fun
  | [d1, d2, d3, d4] => { results := [.lit (.bool false)], args := [d1, d2, d3, d4] }
  | _ => none }
def FnNibblesAreSpecWrongFalsely : Prop := fnNibblesAreSpecRow.holds Trym.pinned (OpenSpec.ofChange fnNibblesAreSpecWrong)

/-- 'zzlaws_root_b1.FnNibblesArePrefixClosed': WHATEVER THE INPUT: true; the input reads as it did. -/
def fnNibblesArePrefixClosedSpec : ChangeSpec := { name := "fnNibblesArePrefixClosed", fn := fun _ => fun
  | [d1, d2, d3, d4, d5] => { results := [.lit (.bool true)], args := [d1, d2, d3, d4, d5] }
  | _ => none }
def fnNibblesArePrefixClosedRow : OpenClaim := { program := "qxb6600466amods", sum := "3f62e5f6f5b7e4dfc86ed6e9f05be75ba682b3ffa6726e29122368f89ddb2b42", func := "example.com/rootward/rootward/zzlaws_root_b1.FnNibblesArePrefixClosed", spec := "fnNibblesArePrefixClosed", make := .lifted ["publicsums"], apart := false }
def FnNibblesArePrefixClosedSaid : Prop := fnNibblesArePrefixClosedRow.holds Trym.pinned (OpenSpec.ofChange fnNibblesArePrefixClosedSpec)

/-- ITS FALSE NEIGHBOUR: 'it returns false'. Refute it at one input. -/
def fnNibblesArePrefixClosedWrong : ChangeSpec := { name := "fnNibblesArePrefixClosed", fn := fun _ => fun
  | [d1, d2, d3, d4, d5] => { results := [.lit (.bool false)], args := [d1, d2, d3, d4, d5] }
  | _ => none }
def FnNibblesArePrefixClosedWrongFalsely : Prop := fnNibblesArePrefixClosedRow.holds Trym.pinned (OpenSpec.ofChange fnNibblesArePrefixClosedWrong)

/-- 'zzlaws_root_b1.FnBatchPutRecordsScript': WHATEVER THE INPUT: true; the input reads as it did. -/
def fnBatchPutRecordsScriptSpec : ChangeSpec := { name := "fnBatchPutRecordsScript", fn := fun _ => fun
  | [d1, d2] => { results := [.lit (.bool true)], args := [d1, d2] }
  | _ => none }
def fnBatchPutRecordsScriptRow : OpenClaim := { program := "qxb6600466amods", sum := "3f62e5f6f5b7e4dfc86ed6e9f05be75ba682b3ffa6726e29122368f89ddb2b42", func := "example.com/rootward/rootward/zzlaws_root_b1.FnBatchPutRecordsScript", spec := "fnBatchPutRecordsScript", make := .lifted ["publicsums"], apart := false }
def FnBatchPutRecordsScriptSaid : Prop := fnBatchPutRecordsScriptRow.holds Trym.pinned (OpenSpec.ofChange fnBatchPutRecordsScriptSpec)

/-- ITS FALSE NEIGHBOUR: 'it returns false'. Refute it at one input. -/
def fnBatchPutRecordsScriptWrong : ChangeSpec := { name := "fnBatchPutRecordsScript", fn := fun _ => fun
  | [d1, d2] => { results := [.lit (.bool false)], args := [d1, d2] }
  | _ => none }
def FnBatchPutRecordsScriptWrongFalsely : Prop := fnBatchPutRecordsScriptRow.holds Trym.pinned (OpenSpec.ofChange fnBatchPutRecordsScriptWrong)

/-- 'zzlaws_root_b1.FnBatchPutKeepsCopies': WHATEVER THE INPUT: true; the input reads as it did. -/
def fnBatchPutKeepsCopiesSpec : ChangeSpec := { name := "fnBatchPutKeepsCopies", fn := fun _ => fun
  | [d1, d2] => { results := [.lit (.bool true)], args := [d1, d2] }
  | _ => none }
def fnBatchPutKeepsCopiesRow : OpenClaim := { program := "qxb6600466amods", sum := "3f62e5f6f5b7e4dfc86ed6e9f05be75ba682b3ffa6726e29122368f89ddb2b42", func := "example.com/rootward/rootward/zzlaws_root_b1.FnBatchPutKeepsCopies", spec := "fnBatchPutKeepsCopies", make := .lifted ["publicsums"], apart := false }
def FnBatchPutKeepsCopiesSaid : Prop := fnBatchPutKeepsCopiesRow.holds Trym.pinned (OpenSpec.ofChange fnBatchPutKeepsCopiesSpec)

/-- ITS FALSE NEIGHBOUR: 'it returns false'. Refute it at one input. -/
def fnBatchPutKeepsCopiesWrong : ChangeSpec := { name := "fnBatchPutKeepsCopies", fn := fun _ => fun
  | [d1, d2] => { results := [.lit (.bool false)], args := [d1, d2] }
  | _ => none }
def FnBatchPutKeepsCopiesWrongFalsely : Prop := fnBatchPutKeepsCopiesRow.holds Trym.pinned (OpenSpec.ofChange fnBatchPutKeepsCopiesWrong)

/-- 'zzlaws_root_b1.FnBatchPutStoredKeyGrowsApart': WHATEVER THE INPUT: true; the input reads as it did. -/
def fnBatchPutStoredKeyGrowsApartSpec : ChangeSpec := { name := "fnBatchPutStoredKeyGrowsApart", fn := fun _ => fun
  | [d1, d2] => { results := [.lit (.bool true)], args := [d1, d2] }
  | _ => none }
def fnBatchPutStoredKeyGrowsApartRow : OpenClaim := { program := "qxb6600466amods", sum := "3f62e5f6f5b7e4dfc86ed6e9f05be75ba682b3ffa6726e29122368f89ddb2b42", func := "example.com/rootward/rootward/zzlaws_root_b1.FnBatchPutStoredKeyGrowsApart", spec := "fnBatchPutStoredKeyGrowsApart", make := .lifted ["publicsums"], apart := false }
def FnBatchPutStoredKeyGrowsApartSaid : Prop := fnBatchPutStoredKeyGrowsApartRow.holds Trym.pinned (OpenSpec.ofChange fnBatchPutStoredKeyGrowsApartSpec)

/-- ITS FALSE NEIGHBOUR: 'it returns false'. Refute it at one input. -/
def fnBatchPutStoredKeyGrowsApartWrong : ChangeSpec := { name := "fnBatchPutStoredKeyGrowsApart", fn := fun _ => fun
  | [d1, d2] => { results := [.lit (.bool false)], args := [d1, d2] }
  | _ => none }
def FnBatchPutStoredKeyGrowsApartWrongFalsely : Prop := fnBatchPutStoredKeyGrowsApartRow.holds Trym.pinned (OpenSpec.ofChange fnBatchPutStoredKeyGrowsApartWrong)

end Rows
end Go.Proofs.Qxb6600466aMods

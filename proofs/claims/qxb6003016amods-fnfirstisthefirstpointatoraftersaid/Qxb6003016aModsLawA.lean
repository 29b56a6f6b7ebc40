import Derived.Test.Qxb6003016aModsFirst
namespace Go.Proofs.Qxb6003016aMods
open Go.RowKit
set_option linter.unusedVariables false
set_option linter.unusedSimpArgs false

def Guarded (p : Prop) (e : Ending) : Prop := e = .returned (.bool false) ∨ (e = .returned (.bool true) ∧ p)
theorem Guarded.no {p : Prop} : Guarded p (.returned (.bool false)) := .inl rfl
theorem Guarded.yes {p : Prop} (h : p) : Guarded p (.returned (.bool true)) := .inr ⟨rfl, h⟩

set_option maxRecDepth 100000 in
set_option maxHeartbeats 1600000 in
theorem zz4_any (wa : Option Addr) (wl wc : Nat) (na : Option Addr) (nl nc : Nat) (sa : Option Addr) (sl sc : Nat) (oa : Option Addr) (n oc : Nat) (p : Int) (w : World) :
    Calls Trym.prog 4 #[.slice wa wl wc, .slice na nl nc, .slice sa sl sc, .slice oa n oc, .int .u32 p] w fun e w' => Guarded (wl + nl + sl + n ≤ 1048576) e ∧ w = w' := by
  go_enter Trym.func4, Trym.ntmps4
  go_wp2
  all_goals go_ret
  all_goals first | exact ⟨Guarded.no, rfl⟩ | exact ⟨Guarded.yes (by first | trivial | omega), rfl⟩

end Go.Proofs.Qxb6003016aMods

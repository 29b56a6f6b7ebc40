import Derived.Test.Qxb6003016aModsLawA
import Derived.Test.Qxb6003016aModsPlainG
namespace Go.Proofs.Qxb6003016aMods
open Go.RowKit
set_option linter.unusedVariables false
set_option linter.unusedSimpArgs false

set_option maxRecDepth 100000 in
set_option maxHeartbeats 1600000 in
theorem law_early (wa : Option Addr) (wl wc : Nat) (na : Option Addr) (nl nc : Nat) (sa : Option Addr) (sl sc : Nat) (oa : Option Addr) (n oc : Nat) (p : Int) (w : World) (h : 262144 < wl ∨ 524288 < nl ∨ 262144 < sl ∨ 524288 < n ∨ 1048576 < 4 * wl + 2 * nl + 4 * sl + 2 * n) :
    Calls Trym.prog 3 #[.slice wa wl wc, .slice na nl nc, .slice sa sl sc, .slice oa n oc, .int .u32 p] w fun e w' => e = .returned (.bool true) ∧ Below w.heap.size w w' := by
  go_enter Trym.func3, Trym.ntmps3
  go_wp2_with fail
  refine (zz4_any _ _ _ _ _ _ _ _ _ _ _ _ _ _).mono ?_
  rintro e w' ⟨hg, rfl⟩
  rcases hg with rfl | ⟨rfl, hsum⟩
  · go_wp2
    go_ret
    exact ⟨rfl, Below.refl _ _⟩
  by_cases h1 : 262144 < wl
  · have d1 : decide ((262144 : Int) < (wl : Int)) = true := decide_eq_true (by omega)
    clear h
    go_wp2
    go_ret
    exact ⟨rfl, Below.refl _ _⟩
  have d1 : decide ((262144 : Int) < (wl : Int)) = false := decide_eq_false (by omega)
  by_cases h2 : 524288 < nl
  · have d2 : decide ((524288 : Int) < (nl : Int)) = true := decide_eq_true (by omega)
    clear h
    go_wp2
    go_ret
    exact ⟨rfl, Below.refl _ _⟩
  have d2 : decide ((524288 : Int) < (nl : Int)) = false := decide_eq_false (by omega)
  by_cases h3 : 262144 < sl
  · have d3 : decide ((262144 : Int) < (sl : Int)) = true := decide_eq_true (by omega)
    clear h
    go_wp2
    go_ret
    exact ⟨rfl, Below.refl _ _⟩
  have d3 : decide ((262144 : Int) < (sl : Int)) = false := decide_eq_false (by omega)
  by_cases h4 : 524288 < n
  · have d4 : decide ((524288 : Int) < (n : Int)) = true := decide_eq_true (by omega)
    clear h
    go_wp2
    go_ret
    exact ⟨rfl, Below.refl _ _⟩
  have d4 : decide ((524288 : Int) < (n : Int)) = false := decide_eq_false (by omega)
  have h5 : (1048576 : Int) < 4 * (wl : Int) + 2 * (nl : Int) + 4 * (sl : Int) + 2 * (n : Int) := by omega
  clear h
  go_wp2
  go_ret
  exact ⟨rfl, Below.refl _ _⟩

end Go.Proofs.Qxb6003016aMods

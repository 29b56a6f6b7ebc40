import Derived.Test.Qxb6600466aModsPlain
import Derived.OpenShut
namespace Go.Proofs.Qxb6600466aMods
open Go.RowKit
set_option linter.unusedVariables false
set_option linter.unusedSimpArgs false

theorem nth_take {zs : List Int} {n j : Nat} (h : j < n) : nth (zs.take n) j = nth zs j := by
  simp [nth, List.getElem?_take, h]

/-- From what the shell is told of a slice of integers to what the walks ask. -/
theorem bridge {k : IntKind} {w : World} {a : Option Addr} {len cap : Nat} {zs : List Int}
    (h : (a = none ∧ len = 0 ∧ cap = 0 ∧ zs = []) ∨ ∃ x, a = some x ∧ len ≤ cap ∧ cap ≤ maxLen ∧ zs.length = cap ∧ (∀ i, i < zs.length → w.cell? (x.add i) = some (.int k (zs.getD i 0))) ∧ ∀ n ∈ zs, (Lit.int k n).wf = true) :
    (zs.take len).length = len ∧ Row k w a (zs.take len) ∧ (a = none → len = 0) ∧ len ≤ maxLen ∧ ∀ n ∈ zs.take len, (Lit.int k n).wf = true := by
  rcases h with ⟨rfl, rfl, rfl, rfl⟩ | ⟨x, rfl, h1, h2, h3, h4, h5⟩
  · exact ⟨rfl, fun j hj => by simp at hj, fun _ => rfl, Nat.zero_le _, fun n hn => by simp at hn⟩
  · refine ⟨by simp; omega, ?_, (fun e => by cases e), by omega, fun n hn => h5 n (List.mem_of_mem_take hn)⟩
    intro j hj
    simp only [List.length_take] at hj
    obtain ⟨b, off, spot⟩ := x
    have hspot : spot = none := by simpa [Addr.add] using World.cell?_spot (h4 0 (by omega))
    subst hspot
    have hc := h4 j (by omega)
    rw [Addr.add_lit] at hc
    refine ⟨b, off, rfl, World.block_lt_of_cell? w _ hc, ?_⟩
    rw [nth_take (by omega)]
    exact hc

theorem byt_of {zs : List Int} (h : ∀ n ∈ zs, (Lit.int .u8 n).wf = true) : Byt zs := by
  intro j
  by_cases hj : j < zs.length
  · rw [nth_get hj]
    have := bounds_u8 (h _ (List.getElem_mem hj))
    omega
  · simp [nth, Nat.not_lt.1 hj]

end Go.Proofs.Qxb6600466aMods

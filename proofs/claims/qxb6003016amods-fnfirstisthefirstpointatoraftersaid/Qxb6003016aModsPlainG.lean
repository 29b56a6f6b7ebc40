import Derived.Test.Qxb6003016aModsPlainF
namespace Go.Proofs.Qxb6003016aMods
open Go.RowKit
set_option linter.unusedVariables false
set_option linter.unusedSimpArgs false

theorem adj_snoc {xs : List Int} {k : Nat} (h : ∀ j, j + 1 < k → nth xs j ≤ nth xs (j + 1)) (h1 : 1 ≤ k) (h2 : nth xs (k - 1) ≤ nth xs k) : ∀ j, j + 1 < k + 1 → nth xs j ≤ nth xs (j + 1) := by
  intro j hj
  by_cases e : j + 1 < k
  · exact h j e
  · obtain rfl : j = k - 1 := by omega
    rw [show k - 1 + 1 = k by omega]
    exact h2

theorem bef_snoc {xs : List Int} {k : Nat} {p : Int} (h : ∀ j, j < k → nth xs j < p) (e : nth xs k < p) : ∀ j, j < k + 1 → nth xs j < p := by
  intro j hj
  by_cases hjk : j < k
  · exact h j hjk
  · obtain rfl : j = k := by omega
    exact e

theorem srt_of {xs : List Int} {n : Nat} (hn : xs.length = n) (h : ∀ j, j + 1 < n → nth xs j ≤ nth xs (j + 1)) : Srt xs := by
  intro i j hij hj
  obtain ⟨d, rfl⟩ : ∃ d, j = i + d := ⟨j - i, by omega⟩
  induction d with
  | zero => exact Int.le_refl _
  | succ d ih =>
    have h1 := ih (by omega) (by omega)
    have h2 := h (i + d) (by omega)
    rw [show i + (d + 1) = i + d + 1 by omega]
    omega

end Go.Proofs.Qxb6003016aMods

import Derived.Test.Qxb6600466aModsNest
import Derived.Test.Qxb6600466aModsBridge
import Derived.Deep.Matrix
namespace Go.Proofs.Qxb6600466aMods
open Go.RowKit
set_option linter.unusedVariables false
set_option linter.unusedSimpArgs false

/-- What the walk is told of a slice of slices of bytes that came in: it is nil; or it leads to a row of 'cap' headers, each of them nil or leading to its own row of numbers. -/
def IsNest (w : World) (a : Option Addr) (len cap : Nat) : Prop :=
  (a = none ∧ len = 0 ∧ cap = 0) ∨
  ∃ (x : Addr) (A : Nat → Option Addr) (L C : Nat → Nat) (Z : Nat → List Int), a = some x ∧ len ≤ cap ∧ cap ≤ maxLen ∧
    ∀ r, r < cap → w.cell? (x.add r) = some (.slice (A r) (L r) (C r)) ∧ L r ≤ C r ∧ C r ≤ maxLen ∧ (Z r).length = C r ∧ (∀ n ∈ Z r, (Lit.int .u8 n).wf = true) ∧ (A r = none → C r = 0) ∧
      ∀ a', A r = some a' → ∀ c, c < C r → w.cell? (a'.add c) = some (.int .u8 ((Z r).getD c 0))

theorem nestBridge {w : World} {a : Option Addr} {len cap : Nat} (h : IsNest w a len cap) : ∃ zss : List (List Int), zss.length = len ∧ Nest w a zss ∧ (a = none → len = 0) ∧ len ≤ maxLen := by
  rcases h with ⟨rfl, rfl, rfl⟩ | ⟨x, A, L, C, Z, rfl, h1, h2, h3⟩
  · exact ⟨[], rfl, fun r hr => absurd hr (Nat.not_lt_zero _), fun _ => rfl, Nat.zero_le _⟩
  · refine ⟨(List.range len).map fun r => (Z r).take (L r), by simp, ?_, (fun e => by cases e), Nat.le_trans h1 h2⟩
    intro r hr
    have hr' : r < len := by simpa using hr
    have erow : rowOf ((List.range len).map fun r => (Z r).take (L r)) r = (Z r).take (L r) := by simp [rowOf, hr']
    obtain ⟨g1, g2, g3, g4, g5, g6, g7⟩ := h3 r (by omega)
    have elen : lenOf ((List.range len).map fun r => (Z r).take (L r)) r = L r := by
      unfold lenOf
      rw [erow, List.length_take]
      omega
    obtain ⟨b, off, spot⟩ := x
    have hspot : spot = none := by simpa [Addr.add] using World.cell?_spot (h3 0 (by omega)).1
    subst hspot
    rw [Addr.add_lit] at g1
    refine ⟨b, off, A r, C r, rfl, World.block_lt_of_cell? w _ g1, by rw [elen]; exact g1, ?_, ?_⟩
    · rw [erow]
      have hb := bridge (k := .u8) (w := w) (a := A r) (len := L r) (cap := C r) (zs := Z r) ?_
      · exact hb.2.1
      · cases hA : A r with
        | none =>
          have := g6 hA
          exact .inl ⟨rfl, by omega, this, List.eq_nil_of_length_eq_zero (by omega)⟩
        | some a' => exact .inr ⟨a', rfl, g2, g3, g4, fun i hi => g7 a' hA i (by omega), g5⟩
    · intro e
      rw [elen]
      have := g6 e
      omega

end Go.Proofs.Qxb6600466aMods

import Derived.Test.Qxb6003016aModsBase
namespace Go.Proofs.Qxb6003016aMods
open Go.RowKit
set_option linter.unusedVariables false
set_option linter.unusedSimpArgs false

/-- In ascending order. -/
def Srt (zs : List Int) : Prop := ∀ i j, i ≤ j → j < zs.length → nth zs i ≤ nth zs j
/-- i is the index of the first number at or after p, or the length. -/
def FG (zs : List Int) (p : Int) (i : Nat) : Prop := i ≤ zs.length ∧ (∀ j, j < i → nth zs j < p) ∧ (i < zs.length → p ≤ nth zs i)

theorem FG.uniq {zs : List Int} {p : Int} {i j : Nat} (h : FG zs p i) (k : FG zs p j) : i = j := by
  obtain ⟨h1, h2, h3⟩ := h
  obtain ⟨k1, k2, k3⟩ := k
  rcases Nat.lt_trichotomy i j with e | e | e
  · have := k2 i e
    have := h3 (by omega)
    omega
  · exact e
  · have := h2 j e
    have := k3 (by omega)
    omega

/-- What the search keeps: all before b are before p; the first at or after p is one of the m from b on, or the one just past them. -/
structure Sea (zs : List Int) (p : Int) (b m : Nat) : Prop where
  fit : b + m ≤ zs.length
  bef : ∀ j, j < b → nth zs j < p
  aft : b + m < zs.length → p ≤ nth zs (b + m)
  non : m = 0 → zs.length = 0

theorem Sea.right {zs : List Int} {p : Int} {b m : Nat} (H : Sea zs p b m) (hs : Srt zs) (hm : 1 < m) (h : nth zs (b + m / 2 - 1) < p) : Sea zs p (b + m / 2) (m - m / 2) := by
  have h1 := H.fit
  refine ⟨by omega, fun j hj => ?_, fun hl => ?_, fun h0 => by omega⟩
  · have := hs j (b + m / 2 - 1) (by omega) (by omega)
    omega
  · rw [show b + m / 2 + (m - m / 2) = b + m by omega]
    exact H.aft (by omega)
theorem Sea.left {zs : List Int} {p : Int} {b m : Nat} (H : Sea zs p b m) (hs : Srt zs) (hm : 1 < m) (h : ¬ nth zs (b + m / 2 - 1) < p) : Sea zs p b (m - m / 2) := by
  have h1 := H.fit
  refine ⟨by omega, H.bef, fun hl => ?_, fun h0 => by omega⟩
  have := hs (b + m / 2 - 1) (b + (m - m / 2)) (by omega) hl
  omega
theorem Sea.last {zs : List Int} {p : Int} {b : Nat} (H : Sea zs p b 1) (h : nth zs b < p) : FG zs p (b + 1) := by
  have h1 := H.fit
  refine ⟨by omega, fun j hj => ?_, H.aft⟩
  by_cases e : j = b
  · subst e; exact h
  · exact H.bef j (by omega)
theorem Sea.here {zs : List Int} {p : Int} {b : Nat} (H : Sea zs p b 1) (h : ¬ nth zs b < p) : FG zs p b := by
  have h1 := H.fit
  exact ⟨by omega, H.bef, fun _ => by omega⟩
theorem Sea.none {zs : List Int} {p : Int} {b : Nat} (H : Sea zs p b 0) : FG zs p b := by
  have h1 := H.fit
  have h2 := H.non rfl
  exact ⟨by omega, H.bef, fun h => by omega⟩

end Go.Proofs.Qxb6003016aMods

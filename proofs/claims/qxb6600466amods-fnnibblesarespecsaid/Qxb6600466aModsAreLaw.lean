import Derived.Test.Qxb6600466aModsAre
import Derived.Test.Qxb6600466aModsHexLaw
namespace Go.Proofs.Qxb6600466aMods
open Go.RowKit
set_option linter.unusedVariables false
set_option linter.unusedSimpArgs false

/-- The first 2k nibbles of a key. -/
def knTo (key : List Int) (k : Nat) : List Int := (List.range (2 * k)).map (nibAt key)
theorem knTo_len (key : List Int) (k : Nat) : (knTo key k).length = 2 * k := by simp [knTo]
theorem knTo_nth (key : List Int) (k j : Nat) (h : j < 2 * k) : nth (knTo key k) j = nibAt key j := by
  rw [nth_get (by rw [knTo_len]; exact h)]
  simp [knTo]
theorem knTo_succ (key : List Int) (k : Nat) : knTo key (k + 1) = knTo key k ++ [nth key k / 16, nth key k % 16] := by
  have e : List.range (2 * (k + 1)) = List.range (2 * k) ++ [2 * k, 2 * k + 1] := by
    rw [show 2 * (k + 1) = (2 * k + 1) + 1 by omega, List.range_succ, List.range_succ]
    simp
  unfold knTo
  rw [e]
  simp only [List.map_append, List.map_cons, List.map_nil]
  rw [nibAt_even (m := 2 * k) (by omega), nibAt_odd (m := 2 * k + 1) (by omega), show 2 * k / 2 = k by omega, show (2 * k + 1) / 2 = k by omega]

theorem eq_iff_nth {xs ys : List Int} : xs = ys ↔ xs.length = ys.length ∧ ∀ j, j < ys.length → nth xs j = nth ys j := by
  constructor
  · rintro rfl
    exact ⟨rfl, fun _ _ => rfl⟩
  · rintro ⟨h1, h2⟩
    apply List.ext_getElem h1
    intro i a b
    rw [← nth_get a, ← nth_get b]
    exact h2 i b

theorem nth_drop (xs : List Int) (f j : Nat) : nth (xs.drop f) j = nth xs (f + j) := by simp [nth]

theorem are_whole {key path : List Int} {f n : Nat} (hz : key.length = n) (hf : f ≤ 2 * n) : areB key path f true = eqB ((knTo key n).drop f) path := by
  unfold areB eqB
  rw [decide_eq_decide, eq_iff_nth, List.length_drop, knTo_len]
  constructor
  · rintro ⟨h1, h2, h3⟩
    have := h2 rfl
    refine ⟨by omega, fun j hj => ?_⟩
    rw [nth_drop, knTo_nth _ _ _ (by omega)]
    exact h3 j hj
  · rintro ⟨h1, h2⟩
    refine ⟨by omega, fun _ => by omega, fun j hj => ?_⟩
    have := h2 j hj
    rw [nth_drop, knTo_nth _ _ _ (by omega)] at this
    exact this

theorem nth_take' {zs : List Int} {n j : Nat} (h : j < n) : nth (zs.take n) j = nth zs j := by
  simp [nth, List.getElem?_take, h]

theorem are_begin {key path : List Int} {f n m : Nat} (hz : key.length = n) (hy : path.length = m) (hf : f ≤ 2 * n) (hm : m ≤ 2 * n - f) : areB key path f false = eqB (((knTo key n).drop f).take m) path := by
  unfold areB eqB
  rw [decide_eq_decide, eq_iff_nth, List.length_take, List.length_drop, knTo_len]
  constructor
  · rintro ⟨h1, h2, h3⟩
    refine ⟨by omega, fun j hj => ?_⟩
    rw [nth_take' (by omega), nth_drop, knTo_nth _ _ _ (by omega)]
    exact h3 j hj
  · rintro ⟨h1, h2⟩
    refine ⟨by omega, fun h => (by cases h), fun j hj => ?_⟩
    have := h2 j hj
    rw [nth_take' (by omega), nth_drop, knTo_nth _ _ _ (by omega)] at this
    exact this

theorem Row.dropOf {k : IntKind} {w : World} {b off f : Nat} {zs : List Int} (h : Row k w (some ⟨b, off, none⟩) zs) {ao : Option Addr} (hao : f < zs.length → ao = some ⟨b, off + f, none⟩) : Row k w ao (zs.drop f) := by
  intro j hj
  rw [List.length_drop] at hj
  obtain ⟨b', off', e, h1, h2⟩ := h (f + j) (by omega)
  cases e
  refine ⟨b, off + f, hao (by omega), h1, ?_⟩
  rw [nth_drop, ← h2]
  congr 2
  omega
theorem Row.takeOf {k : IntKind} {w : World} {ad : Option Addr} {m : Nat} {zs : List Int} (h : Row k w ad zs) : Row k w ad (zs.take m) := by
  intro j hj
  rw [List.length_take] at hj
  rw [nth_take' (by omega)]
  exact h j (by omega)

end Go.Proofs.Qxb6600466aMods

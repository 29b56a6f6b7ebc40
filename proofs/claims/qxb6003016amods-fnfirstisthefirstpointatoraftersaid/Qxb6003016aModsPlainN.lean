import Derived.Test.Qxb6003016aModsPlainG
import Derived.Test.Qxb6003016aModsFirst
namespace Go.Proofs.Qxb6003016aMods
open Go.RowKit
set_option linter.unusedVariables false
set_option linter.unusedSimpArgs false

/-- The starts ascend over the first k steps. -/
def Mon (sts : List Int) (k : Nat) : Prop := ∀ j, j < k → nth sts j ≤ nth sts (j + 1)
theorem Mon.le {sts : List Int} {k : Nat} (h : Mon sts k) : ∀ i j, i ≤ j → j ≤ k → nth sts i ≤ nth sts j := by
  intro i j hij hj
  obtain ⟨d, rfl⟩ : ∃ d, j = i + d := ⟨j - i, by omega⟩
  induction d with
  | zero => exact Int.le_refl _
  | succ d ih =>
    have h1 := ih (by omega) (by omega)
    have h2 := h (i + d) (by omega)
    rw [show i + (d + 1) = i + d + 1 by omega]
    omega
theorem Mon.snoc {sts : List Int} {k : Nat} (h : Mon sts k) (e : nth sts k ≤ nth sts (k + 1)) : Mon sts (k + 1) := by
  intro j hj
  by_cases hjk : j < k
  · exact h j hjk
  · obtain rfl : j = k := by omega
    exact e

/-- The positions below u are filled. -/
def Fill (sts nar xs : List Int) (u : Int) : Prop := ∀ h j : Nat, h < 65536 → nth sts h ≤ (j : Int) → (j : Int) < nth sts (h + 1) → (j : Int) < u → nth xs j = 65536 * (h : Int) + nth nar j

theorem Fill.zero {sts nar xs : List Int} : Fill sts nar xs 0 := by
  intro h j _ _ _ hu
  omega

theorem Fill.next {sts nar xs : List Int} {k i : Nat} (H : Fill sts nar xs (i : Int)) (hm : Mon sts 65536) (hk : k < 65536) (h1 : nth sts k ≤ (i : Int)) (h2 : (i : Int) < nth sts (k + 1)) (hi : i < xs.length) :
    Fill sts nar (xs.set i (65536 * (k : Int) + nth nar i)) ((i + 1 : Nat) : Int) := by
  intro h j hh g1 g2 gu
  by_cases e : j = i
  · subst e
    rw [nth_set_same hi]
    have hhk : h = k := by
      rcases Nat.lt_trichotomy h k with c | c | c
      · have := hm.le (h + 1) k (by omega) (by omega)
        omega
      · exact c
      · have := hm.le (k + 1) h (by omega) (by omega)
        omega
    rw [hhk]
  · rw [nth_set_ne e]
    exact H h j hh g1 g2 (by omega)

theorem cover {sts : List Int} (hm : Mon sts 65536) (h0 : nth sts 0 = 0) (j : Nat) : ∀ k, k ≤ 65536 → (j : Int) < nth sts k → ∃ h, h < k ∧ nth sts h ≤ (j : Int) ∧ (j : Int) < nth sts (h + 1) := by
  intro k
  induction k with
  | zero => intro _ h; omega
  | succ k ih =>
    intro hk h
    by_cases c : (j : Int) < nth sts k
    · obtain ⟨x, x1, x2, x3⟩ := ih (by omega) c
      exact ⟨x, by omega, x2, x3⟩
    · exact ⟨k, by omega, by omega, h⟩

theorem sub_nth {nar : List Int} {s e j : Nat} (hj : j < e - s) : nth ((nar.drop s).take (e - s)) j = nth nar (s + j) := by
  rw [nth_take' hj, nth_drop]

section
variable {sts nar xs : List Int} {n hi s e : Nat} {p lo : Int}

theorem narrow_srt (hxl : xs.length = n) (hf : Fill sts nar xs (n : Int)) (hs : Srt xs) (hhi : hi < 65536) (h1 : nth sts hi = (s : Int)) (h2 : nth sts (hi + 1) = (e : Int)) (hen : e ≤ n) : Srt ((nar.drop s).take (e - s)) := by
  intro i j hij hj
  have hj' : j < e - s := by rw [List.length_take] at hj; omega
  rw [sub_nth (by omega), sub_nth hj']
  have q1 := hf hi (s + i) hhi (by omega) (by omega) (by omega)
  have q2 := hf hi (s + j) hhi (by omega) (by omega) (by omega)
  have q3 := hs (s + i) (s + j) (by omega) (by omega)
  omega

theorem narrow_law (hxl : xs.length = n) (hnl : nar.length = n) (hm : Mon sts 65536) (h0 : nth sts 0 = 0) (hN : nth sts 65536 = (n : Int)) (hf : Fill sts nar xs (n : Int)) (hnb : ∀ j, 0 ≤ nth nar j ∧ nth nar j ≤ 65535)
    (hp : 0 ≤ p) (hhi : p / 65536 = (hi : Int)) (hlo : p % 65536 = lo) (hhi2 : hi < 65536) (h1 : nth sts hi = (s : Int)) (h2 : nth sts (hi + 1) = (e : Int)) {i : Nat} (G : FG ((nar.drop s).take (e - s)) lo i) : FG xs p (s + i) := by
  have hse : s ≤ e := by have := hm.le hi (hi + 1) (by omega) (by omega); omega
  have hen : e ≤ n := by have := hm.le (hi + 1) 65536 (by omega) (by omega); omega
  have hlen : ((nar.drop s).take (e - s)).length = e - s := by rw [List.length_take, List.length_drop]; omega
  obtain ⟨g1, g2, g3⟩ := G
  rw [hlen] at g1 g3
  refine ⟨by omega, fun j hj => ?_, fun hl => ?_⟩
  · by_cases c : j < s
    · obtain ⟨h, _, x2, x3⟩ := cover hm h0 j 65536 (by omega) (by omega)
      have hlt : h < hi := by
        rcases Nat.lt_or_ge h hi with c' | c'
        · exact c'
        · have := hm.le hi h c' (by omega)
          omega
      rw [hf h j (by omega) x2 x3 (by omega)]
      have := hnb j
      omega
    · rw [hf hi j hhi2 (by omega) (by omega) (by omega)]
      have := g2 (j - s) (by omega)
      rw [sub_nth (by omega), show s + (j - s) = j by omega] at this
      omega
  · rw [hxl] at hl
    by_cases c : s + i < e
    · rw [hf hi (s + i) hhi2 (by omega) (by omega) (by omega)]
      have := g3 (by omega)
      rw [sub_nth (by omega)] at this
      omega
    · obtain ⟨h, hh, x2, x3⟩ := cover hm h0 (s + i) 65536 (by omega) (by omega)
      have hgt : hi < h := by
        rcases Nat.lt_or_ge hi h with c' | c'
        · exact c'
        · have := hm.le (h + 1) (hi + 1) (by omega) (by omega)
          omega
      rw [hf h (s + i) hh x2 x3 (by omega)]
      have := hnb (s + i)
      omega
end

theorem or32 (k x : Int) (hk : 0 ≤ k ∧ k ≤ 65535) (hx : 0 ≤ x ∧ x ≤ 65535) : bits .or .u32 (k * 65536) x = 65536 * k + x := by
  have := bits_join .u32 32 (by decide) (fun n h1 h2 => by rw [IntKind.wrap_u32]; omega) 16 (k * 65536) x (by omega) (by omega) (by omega) (by omega) (by omega) (by omega)
  rw [this]
  omega

end Go.Proofs.Qxb6003016aMods

import Derived.Below
import Derived.KernelRfl
namespace Go.Proofs.Qxb6600466aMods
open Go.RowKit
set_option linter.unusedVariables false
set_option linter.unusedSimpArgs false

/-- The j-th number of a list; a plain definition, so that the walk leaves it as it stands. -/
def nth (zs : List Int) (j : Nat) : Int := zs.getD j 0

/-- The slice at 'ad' reads as the numbers 'zs'. -/
def Row (k : IntKind) (w : World) (ad : Option Addr) (zs : List Int) : Prop :=
  ∀ j, j < zs.length → ∃ b off, ad = some ⟨b, off, none⟩ ∧ b < w.heap.size ∧ w.cell? ⟨b, off + j, none⟩ = some (.int k (nth zs j))

theorem nth_get {zs : List Int} {k : Nat} (h : k < zs.length) : nth zs k = zs[k] := by simp [nth, h]

def Byt (zs : List Int) : Prop := ∀ j, 0 ≤ nth zs j ∧ nth zs j ≤ 255

def allB (zs : List Int) : Bool := zs.all fun x => decide (x ≤ 15)
def eqB (xs ys : List Int) : Bool := decide (xs = ys)

theorem Row.of_below {k : IntKind} {B : Nat} {w w' : World} {ad : Option Addr} {zs : List Int} (h : Row k w ad zs) (hb : Below B w w') (hB : ∀ b off, ad = some ⟨b, off, none⟩ → 0 < zs.length → b < B) : Row k w' ad zs := by
  intro j hj
  obtain ⟨b, off, e, h1, h2⟩ := h j hj
  refine ⟨b, off, e, Nat.lt_of_lt_of_le h1 hb.size, ?_⟩
  rw [hb.cell (p := ⟨b, off + j, none⟩) (hB b off e (by omega))]
  exact h2

theorem Row.below {k : IntKind} {w w' : World} {ad : Option Addr} {zs : List Int} (h : Row k w ad zs) (hb : Below w.heap.size w w') : Row k w' ad zs := by
  refine h.of_below hb ?_
  intro b off e h0
  obtain ⟨b', off', e', h1, _⟩ := h 0 h0
  rw [e] at e'
  simp only [Option.some.injEq, Addr.mk.injEq] at e'
  obtain ⟨rfl, _⟩ := e'
  exact h1

/-- The m-th nibble of a key, high nibble first. -/
def nibAt (zs : List Int) (m : Nat) : Int := if m % 2 = 0 then nth zs (m / 2) / 16 else nth zs (m / 2) % 16
theorem nibAt_even {zs : List Int} {m : Nat} (h : m % 2 = 0) : nibAt zs m = nth zs (m / 2) / 16 := by simp [nibAt, h]
theorem nibAt_odd {zs : List Int} {m : Nat} (h : ¬ m % 2 = 0) : nibAt zs m = nth zs (m / 2) % 16 := by simp [nibAt, h]

theorem take_snoc (zs : List Int) (k : Nat) (h : k < zs.length) : zs.take (k + 1) = zs.take k ++ [nth zs k] := by
  rw [List.take_succ_eq_append_getElem h, nth_get h]

theorem allB_take_false {zs : List Int} {k : Nat} (h : k < zs.length) (h2 : 15 < nth zs k) : allB zs = false := by
  unfold allB
  rw [Bool.eq_false_iff]
  intro hh
  rw [List.all_eq_true] at hh
  have := hh (zs[k]) (List.getElem_mem h)
  rw [nth_get h] at h2
  simp at this
  omega

theorem allB_take_snoc {zs : List Int} {k : Nat} (h : k < zs.length) (h1 : allB (zs.take k) = true) (h2 : nth zs k ≤ 15) : allB (zs.take (k + 1)) = true := by
  rw [take_snoc zs k h]
  unfold allB at *
  simp [h1, h2]

theorem eqB_ne_len {xs ys : List Int} (h : xs.length ≠ ys.length) : eqB xs ys = false := by
  unfold eqB
  simp only [decide_eq_false_iff_not]
  intro e
  exact h (by rw [e])

theorem eqB_ne_at {xs ys : List Int} {k : Nat} (h2 : nth xs k ≠ nth ys k) : eqB xs ys = false := by
  unfold eqB
  simp only [decide_eq_false_iff_not]
  intro e
  exact h2 (by rw [e])

theorem eqB_take {xs ys : List Int} (hl : xs.length = ys.length) (h : ∀ j, j < xs.length → nth xs j = nth ys j) : eqB xs ys = true := by
  unfold eqB
  simp only [decide_eq_true_eq]
  apply List.ext_getElem hl
  intro i h1 h2
  have := h i h1
  rw [nth_get h1, nth_get h2] at this
  exact this

end Go.Proofs.Qxb6600466aMods

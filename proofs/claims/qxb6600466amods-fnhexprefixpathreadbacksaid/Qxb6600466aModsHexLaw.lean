import Derived.Test.Qxb6600466aModsPack
namespace Go.Proofs.Qxb6600466aMods
open Go.RowKit
set_option linter.unusedVariables false
set_option linter.unusedSimpArgs false

theorem nth_cons_zero (x : Int) (l : List Int) : nth (x :: l) 0 = x := rfl
theorem nth_cons_succ (x : Int) (l : List Int) (j : Nat) : nth (x :: l) (j + 1) = nth l j := by simp [nth]
theorem nth_out {l : List Int} {j : Nat} (h : l.length ≤ j) : nth l j = 0 := by simp [nth, h]

theorem nth_pk (zs : List Int) (k j : Nat) (h : j < k) : nth (pk zs k) j = 16 * nth zs (2 * j) + nth zs (2 * j + 1) := by
  rw [nth_get (by rw [pk_len]; exact h)]
  simp [pk]

theorem nib_pk {zs : List Int} (hn : Nib zs) (k i : Nat) (h : i < 2 * k) : nibAt (pk zs k) i = nth zs i := by
  have h0 := hn (2 * (i / 2))
  have h1 := hn (2 * (i / 2) + 1)
  by_cases he : i % 2 = 0
  · rw [nibAt_even he, nth_pk _ _ _ (by omega), show i = 2 * (i / 2) by omega]
    rw [show 2 * (i / 2) / 2 = i / 2 by omega]
    omega
  · rw [nibAt_odd he, nth_pk _ _ _ (by omega)]
    conv => rhs; rw [show i = 2 * (i / 2) + 1 by omega]
    omega

theorem nibAt_cons (x : Int) (l : List Int) (i : Nat) : nibAt (x :: l) (i + 2) = nibAt l i := by
  unfold nibAt
  rw [show (i + 2) / 2 = i / 2 + 1 by omega, nth_cons_succ, show (i + 2) % 2 = i % 2 by omega]

def wantL (zs : List Int) (leaf : Bool) : List Int := (if zs.length % 2 = 0 then [flagOf leaf, 0] else [flagOf leaf + 1]) ++ zs

theorem flag_bd (leaf : Bool) : 0 ≤ flagOf leaf ∧ flagOf leaf ≤ 2 := by cases leaf <;> decide

theorem hexP_len (zs : List Int) (leaf : Bool) : (hexP zs leaf).length = 1 + zs.length / 2 := by
  unfold hexP
  split <;> simp [pk_len] <;> omega

theorem want_len (zs : List Int) (leaf : Bool) : (wantL zs leaf).length = 2 * (1 + zs.length / 2) := by
  unfold wantL
  split <;> simp <;> omega

theorem want_nib {zs : List Int} (hn : Nib zs) (leaf : Bool) (j : Nat) (hj : j < (wantL zs leaf).length) : nibAt (hexP zs leaf) j = nth (wantL zs leaf) j := by
  have hf := flag_bd leaf
  rw [want_len] at hj
  have h0 := hn 0
  by_cases he : zs.length % 2 = 0
  · rw [hexP_even rfl he]
    unfold wantL
    rw [if_pos he]
    match j, hj with
    | 0, _ => rw [nibAt_even rfl]; show 16 * flagOf leaf / 16 = flagOf leaf; omega
    | 1, _ => rw [nibAt_odd (by decide)]; show 16 * flagOf leaf % 16 = 0; omega
    | i + 2, hj =>
      show nibAt (_ :: _) (i + 2) = nth (_ :: _ :: zs) (i + 2)
      rw [nibAt_cons, nth_cons_succ, nth_cons_succ]
      exact nib_pk hn _ _ (by omega)
  · rw [hexP_odd rfl (by omega)]
    unfold wantL
    rw [if_neg he]
    match j, hj with
    | 0, _ => rw [nibAt_even rfl]; show (16 * (flagOf leaf + 1) + nth zs 0) / 16 = flagOf leaf + 1; omega
    | 1, _ => rw [nibAt_odd (by decide)]; show (16 * (flagOf leaf + 1) + nth zs 0) % 16 = nth zs 0; omega
    | i + 2, hj =>
      show nibAt (_ :: _) (i + 2) = nth (_ :: zs) (i + 2)
      rw [nibAt_cons, nth_cons_succ, ← nth_tail]
      exact nib_pk hn.tail _ _ (by omega)

theorem hexP_byt {zs : List Int} (hn : Nib zs) (leaf : Bool) : Byt (hexP zs leaf) := by
  have hf := flag_bd leaf
  have key : ∀ (ys : List Int), Nib ys → ∀ m j, 0 ≤ nth (pk ys m) j ∧ nth (pk ys m) j ≤ 255 := by
    intro ys hy m j
    by_cases hj : j < m
    · rw [nth_pk _ _ _ hj]
      have := hy (2 * j)
      have := hy (2 * j + 1)
      omega
    · rw [nth_out (by rw [pk_len]; omega)]
      decide
  intro j
  have h0 := hn 0
  unfold hexP
  split
  · cases j with
    | zero => rw [nth_cons_zero]; omega
    | succ i => rw [nth_cons_succ]; exact key _ hn.tail _ _
  · cases j with
    | zero => rw [nth_cons_zero]; omega
    | succ i => rw [nth_cons_succ]; exact key _ hn _ _

theorem nib_of {zs : List Int} (hb : Byt zs) (ha : allB zs = true) : Nib zs := by
  intro j
  refine ⟨(hb j).1, ?_⟩
  by_cases hj : j < zs.length
  · unfold allB at ha
    rw [List.all_eq_true] at ha
    have := ha (zs[j]) (List.getElem_mem hj)
    rw [nth_get hj]
    simpa using this
  · rw [nth_out (by omega)]
    decide

/-- Two encodings that are one come from one path and one flag. -/
theorem hexP_inj {xs ys : List Int} {a b : Bool} (hx : Nib xs) (hy : Nib ys) (h : hexP xs a = hexP ys b) : a = b ∧ xs = ys := by
  have hl : (wantL xs a).length = (wantL ys b).length := by
    have := congrArg List.length h
    rw [hexP_len, hexP_len] at this
    rw [want_len, want_len]
    omega
  have hw : wantL xs a = wantL ys b := by
    apply List.ext_getElem hl
    intro i h1 h2
    rw [← nth_get h1, ← nth_get h2, ← want_nib hx a i h1, ← want_nib hy b i h2, h]
  unfold wantL at hw
  have fa := flag_bd a
  have fb := flag_bd b
  split at hw
  · split at hw
    · simp only [List.cons_append, List.nil_append, List.cons.injEq] at hw
      refine ⟨?_, hw.2.2⟩
      have := hw.1
      revert this
      cases a <;> cases b <;> simp [flagOf]
    · simp only [List.cons_append, List.nil_append, List.cons.injEq] at hw
      have := hw.1
      revert this
      cases a <;> cases b <;> simp [flagOf]
  · split at hw
    · simp only [List.cons_append, List.nil_append, List.cons.injEq] at hw
      have := hw.1
      revert this
      cases a <;> cases b <;> simp [flagOf]
    · simp only [List.cons_append, List.nil_append, List.cons.injEq] at hw
      refine ⟨?_, hw.2⟩
      have := hw.1
      revert this
      cases a <;> cases b <;> simp [flagOf]

end Go.Proofs.Qxb6600466aMods

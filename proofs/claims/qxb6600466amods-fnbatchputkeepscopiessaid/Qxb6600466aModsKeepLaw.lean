import Derived.Test.Qxb6600466aModsRecWalk
namespace Go.Proofs.Qxb6600466aMods
open Go.RowKit
set_option linter.unusedVariables false
set_option linter.unusedSimpArgs false

theorem rowOf_take {kss : List (List Int)} {N r : Nat} (h : r < N) : rowOf (kss.take N) r = rowOf kss r := by
  simp [rowOf, List.getElem?_take, h]
theorem lenOf_take {kss : List (List Int)} {N r : Nat} (h : r < N) : lenOf (kss.take N) r = lenOf kss r := by
  unfold lenOf
  rw [rowOf_take h]

/-- A step on another header's block leaves a block of clones alone. -/
theorem NestB.far {w w1 : World} {lo G G' : Nat} {zss : List (List Int)} {k j : Nat} {u : Value} {hs' : List Value} (H : NestB w lo w.heap.size G zss k) (hb : Below w.heap.size w w1) (hne : G ≠ G') (hb' : Blk w1 G' 22 hs') :
    NestB (w1.setCell ⟨G', j, none⟩ u) lo (w1.setCell ⟨G', j, none⟩ u).heap.size G zss k := by
  obtain ⟨hs, h1, h2, h3⟩ := H
  refine ⟨hs, (h1.of_below hb h1.lt).setFar hne, h2, fun r hr => ?_⟩
  exact (h3 r hr).mono (Nat.le_refl _) (by simpa using hb.size) (fun b cs _ hlt hbk => by
    have h5 := hbk.of_below hb hlt
    exact h5.setFar (h5.type_ne hb' (by decide)))

theorem NestB.blk {w : World} {lo hi G : Nat} {zss : List (List Int)} {k : Nat} (H : NestB w lo hi G zss k) : ∃ hs, Blk w G 22 hs := by
  obtain ⟨hs, h, _⟩ := H
  exact ⟨hs, h⟩

theorem NestB.atBlk {w : World} {lo hi G : Nat} {zss : List (List Int)} {K : Nat} (H : NestB w lo hi G zss K) (r : Nat) (hr : r < K) :
    ∃ hs a, Blk w G 22 hs ∧ w.cell? ⟨G, r, none⟩ = some (.slice a (lenOf zss r) (lenOf zss r)) ∧ Row .u8 w a (rowOf zss r) := by
  obtain ⟨hs, h1, h2, h3⟩ := H
  obtain ⟨a, e1, e2, _⟩ := (h3 r hr).row
  exact ⟨hs, a, h1, by rw [h1.cell]; exact e1, e2⟩

theorem BatchB.congr {w : World} {B base lo : Nat} {kss vss kss' vss' : List (List Int)} {i : Nat} (h : BatchB w B base lo kss vss i) (hk : ∀ j, j < i → rowOf kss j = rowOf kss' j) (hv : ∀ j, j < i → rowOf vss j = rowOf vss' j) : BatchB w B base lo kss' vss' i := by
  obtain ⟨v, xs, h1, h2, h3⟩ := h
  refine ⟨v, xs, h1, h2, fun j hj => ?_⟩
  obtain ⟨a, b, e1, e2, e3⟩ := h3 j hj
  rw [hk j hj, hv j hj] at e3
  exact ⟨a, b, e1, e2, e3⟩

/-! ### Writes to a zone of blocks -/
structure Zon (lo hi : Nat) (w w' : World) : Prop where
  os : w'.os = w.os
  tape : w'.tape = w.tape
  output : w'.output = w.output
  size : w'.heap.size = w.heap.size
  block : ∀ b, (b < lo ∨ hi ≤ b) → w'.heap[b]? = w.heap[b]?

theorem Zon.refl (lo hi : Nat) (w : World) : Zon lo hi w w := ⟨rfl, rfl, rfl, rfl, fun _ _ => rfl⟩
theorem Zon.drew {lo hi : Nat} {w w' : World} (h : Zon lo hi w w') : Zon lo hi w w'.drew := ⟨h.os, h.tape, h.output, h.size, h.block⟩
theorem Zon.setCell {lo hi : Nat} {w w' : World} (h : Zon lo hi w w') {g j : Nat} (hl : lo ≤ g) (hh : g < hi) (u : Value) : Zon lo hi w (w'.setCell ⟨g, j, none⟩ u) := by
  refine ⟨h.os, h.tape, h.output, by simpa using h.size, fun b hb => ?_⟩
  rw [Below.heap_setCell _ _ _ _ (by show b ≠ g; omega)]
  exact h.block b hb
theorem Zon.blk {lo hi : Nat} {w w' : World} (h : Zon lo hi w w') {b e : Nat} {cs : List Value} (hb : Blk w b e cs) (ho : b < lo ∨ hi ≤ b) : Blk w' b e cs := by
  unfold Blk
  rw [h.block b ho]
  exact hb
theorem Zon.below {lo hi B : Nat} {w w' : World} (h : Zon lo hi w w') (hB : B ≤ lo) : Below B w w' := ⟨h.os, h.tape, h.output, by rw [h.size]; exact Nat.le_refl _, fun k hk => h.block k (.inl (by omega))⟩

theorem NestV.zone {w w' : World} {lo hi lo1 hi1 : Nat} {ad : Option Addr} {zss : List (List Int)} (H : NestV w lo1 hi1 ad zss) (h : Zon lo hi w w') (hh : hi1 ≤ lo) : NestV w' lo1 hi1 ad zss := by
  rcases H with H | ⟨G, h1, h2, h3, hs, h4, h5, h6⟩
  · exact .inl H
  · exact .inr ⟨G, h1, h2, h3, hs, h.blk h4 (.inl (by omega)), h5, fun r hr => (h6 r hr).mono (Nat.le_refl _) (Nat.le_refl _) (fun b cs _ hlt hb => h.blk hb (.inl (by omega)))⟩

theorem BatchB.zone {w w' : World} {lo B : Nat} {kss vss : List (List Int)} {i : Nat} (H : BatchB w B B B kss vss i) (h : Zon lo B w w') : BatchB w' B B B kss vss i := by
  obtain ⟨v, xs, h1, h2, h3⟩ := H
  refine ⟨v, xs, h.blk h1 (.inr (Nat.le_refl _)), ?_, fun j hj => ?_⟩
  · obtain ⟨e1, e2⟩ := h2
    refine ⟨e1, ?_⟩
    rcases e2 with e2 | ⟨g, cap, cur, hv, hg, hh, r⟩
    · exact .inl e2
    · exact .inr ⟨g, cap, cur, hv, hg, by rw [h.block g (.inr hg)]; exact hh, r⟩
  · obtain ⟨a, b, e1, e2, p, q1, q2, q3, q4⟩ := h3 j hj
    exact ⟨a, b, e1, e2, p, q1, h.blk q2 (.inr q1), q3, q4⟩

/-! ### Rows of bytes of which nothing is known but that they are bytes -/
def AnyR (w : World) (lo hi : Nat) (a : Option Addr) (L : Nat) : Prop :=
  L = 0 ∨ ∃ g cs, a = some ⟨g, 0, none⟩ ∧ lo ≤ g ∧ g < hi ∧ Blk w g 5 cs ∧ cs.length = L ∧ ∀ j, j < L → ∃ z, cs[j]? = some (.int .u8 z)

theorem AnyR.set {w : World} {lo hi : Nat} {a : Option Addr} {L g j : Nat} {z : Int} (H : AnyR w lo hi a L) : AnyR (w.setCell ⟨g, j, none⟩ (.int .u8 z)) lo hi a L := by
  rcases H with H | ⟨g', cs, h1, h2, h3, h4, h5, h6⟩
  · exact .inl H
  · right
    by_cases e : g' = g
    · subst e
      refine ⟨g', cs.set j (.int .u8 z), h1, h2, h3, h4.set j _, by simpa using h5, fun i hi' => ?_⟩
      by_cases e2 : i = j
      · subst e2
        exact ⟨z, by simp [h5, hi']⟩
      · obtain ⟨y, hy⟩ := h6 i hi'
        exact ⟨y, by rw [List.getElem?_set_ne (fun h => e2 h.symm)]; exact hy⟩
    · exact ⟨g', cs, h1, h2, h3, h4.setFar e, h5, h6⟩

theorem AnyR.drew {w : World} {lo hi : Nat} {a : Option Addr} {L : Nat} (H : AnyR w lo hi a L) : AnyR w.drew lo hi a L := H

theorem HdC.any {w : World} {lo hi : Nat} {h : Option Value} {z : List Int} (H : HdC w lo hi h z) : ∃ a, h = some (.slice a z.length z.length) ∧ AnyR w lo hi a z.length := by
  obtain ⟨a, h1, h2⟩ := H
  refine ⟨a, h1, ?_⟩
  rcases h2 with ⟨rfl, rfl⟩ | ⟨g, rfl, h3, h4, h5⟩
  · exact .inl rfl
  · exact .inr ⟨g, _, rfl, h3, h4, h5, u8s_len z, fun j hj => ⟨_, u8s_get z j hj⟩⟩

/-- A block of headers over such rows. -/
def AnyN (w : World) (lo hi G : Nat) (zss : List (List Int)) (N : Nat) : Prop :=
  G < lo ∧ ∃ hs, Blk w G 22 hs ∧ ∀ r, r < N → ∃ a, hs[r]? = some (.slice a (lenOf zss r) (lenOf zss r)) ∧ AnyR w lo hi a (lenOf zss r)

theorem AnyN.set {w : World} {lo hi G : Nat} {zss : List (List Int)} {N g j : Nat} {z : Int} (H : AnyN w lo hi G zss N) (hg : lo ≤ g) : AnyN (w.setCell ⟨g, j, none⟩ (.int .u8 z)) lo hi G zss N := by
  obtain ⟨h0, hs, h1, h2⟩ := H
  refine ⟨h0, hs, h1.setFar (by omega), fun r hr => ?_⟩
  obtain ⟨a, e1, e2⟩ := h2 r hr
  exact ⟨a, e1, e2.set⟩

theorem AnyN.drew {w : World} {lo hi G : Nat} {zss : List (List Int)} {N : Nat} (H : AnyN w lo hi G zss N) : AnyN w.drew lo hi G zss N := H

theorem NestB.any {w w' : World} {lo hi G : Nat} {zss : List (List Int)} {N : Nat} (H : NestB w lo hi G zss N) (hk : Kept w w') (h0 : G < lo) : AnyN w' lo hi G zss N := by
  obtain ⟨hs, h1, h2, h3⟩ := H.kept hk
  exact ⟨h0, hs, h1, fun r hr => (h3 r hr).any⟩

/-- What a read of one byte of a row wants. -/
theorem AnyN.at {w : World} {lo hi G : Nat} {zss : List (List Int)} {N k : Nat} (H : AnyN w lo hi G zss N) (hk : k < N) : ∃ a, w.cell? ⟨G, k, none⟩ = some (.slice a (lenOf zss k) (lenOf zss k)) ∧
    ∀ j, j < lenOf zss k → ∃ g z, a = some ⟨g, 0, none⟩ ∧ lo ≤ g ∧ g < hi ∧ w.cell? ⟨g, j, none⟩ = some (.int .u8 z) ∧ w.frozen? ⟨g, j, none⟩ = false := by
  obtain ⟨h0, hs, h1, h2⟩ := H
  obtain ⟨a, e1, e2⟩ := h2 k hk
  refine ⟨a, by rw [h1.cell]; exact e1, fun j hj => ?_⟩
  rcases e2 with e2 | ⟨g, cs, q1, q2, q3, q4, q5, q6⟩
  · omega
  · obtain ⟨z, hz⟩ := q6 j hj
    exact ⟨g, z, q1, q2, q3, by rw [q4.cell]; exact hz, q4.frozen j⟩

end Go.Proofs.Qxb6600466aMods

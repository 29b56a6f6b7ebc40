import Derived.Test.Qxb6003016aModsRows
import Derived.WalkKit
import Derived.WalkSpells
import Derived.WalkLawsBesides
import Derived.Deep.QuietTactic
import Derived.BigQuiet
namespace Go.Proofs.Qxb6003016aMods
open Go.RowKit
set_option linter.unusedVariables false
set_option linter.unusedSimpArgs false

/-- The j-th number of a list; a plain definition, so that the walk leaves it as it stands. -/
def nth (zs : List Int) (j : Nat) : Int := zs.getD j 0

/-- The slice at 'ad' reads as the numbers 'zs'. -/
def Row (k : IntKind) (w : World) (ad : Option Addr) (zs : List Int) : Prop :=
  ∀ j, j < zs.length → ∃ b off, ad = some ⟨b, off, none⟩ ∧ b < w.heap.size ∧ w.cell? ⟨b, off + j, none⟩ = some (.int k (nth zs j))

theorem nth_get {zs : List Int} {k : Nat} (h : k < zs.length) : nth zs k = zs[k] := by simp [nth, h]

theorem Row.of_below {k : IntKind} {B : Nat} {w w' : World} {ad : Option Addr} {zs : List Int} (h : Row k w ad zs) (hb : Below B w w') (hB : ∀ b off, ad = some ⟨b, off, none⟩ → 0 < zs.length → b < B) : Row k w' ad zs := by
  intro j hj
  obtain ⟨b, off, e, h1, h2⟩ := h j hj
  refine ⟨b, off, e, Nat.lt_of_lt_of_le h1 hb.size, ?_⟩
  rw [hb.cell (p := ⟨b, off + j, none⟩) (hB b off e (by omega))]
  exact h2

theorem Row.below {k : IntKind} {w w' : World} {ad : Option Addr} {zs : List Int} (h : Row k w ad zs) (hb : Below w.heap.size w w') : Row k w' ad zs := by
  refine h.of_below hb ?_
  intro b off e h0
  obtain ⟨b', off', e', h1, _⟩ := h 0 h0
  rw [e] at e'
  simp only [Option.some.injEq, Addr.mk.injEq] at e'
  obtain ⟨rfl, _⟩ := e'
  exact h1

theorem take_snoc (zs : List Int) (k : Nat) (h : k < zs.length) : zs.take (k + 1) = zs.take k ++ [nth zs k] := by
  rw [List.take_succ_eq_append_getElem h, nth_get h]

/-- 'make([]T, l, c)', l and c variables: the world written out. -/
theorem wpList_make_at {P : Program} (w : World) {ops : Array Oper} {rest : List Oper} {o : Oper} {a : Act} {Q : Exit → Act → World → Prop}
    (hg : o.guard = none) (l c : Operand) (t : TypeId) (hop : o.op = Op.makeSlice t l c)
    (e : TypeId) (i : TypeInfo) (z : Value) (size bytes : Nat) (h1 : P.underlying t = some (.slice e)) (h2 : P.info? e = some i) (h3 : i.zero = some z) (h4 : i.size = size) (h5 : i.bytes = bytes)
    (kl kc : IntKind) (L C : Int) (n m : Nat) (hl : a.eval l = .int kl L) (hc : a.eval c = .int kc C) (hL : L = (n : Int)) (hC : C = (m : Int)) (b1 : n ≤ m) (b2 : bytes * m ≤ 281474976710656) (b3 : m ≤ maxLen)
    (hK : wpList P ops Q rest (a.put o.dst (.slice (some ⟨w.heap.size, 0, none⟩) n m)) (w.alloc (.cells (madeCells z.cells (m * size)) e))) :
    wpList P ops Q (o :: rest) a w := by
  refine wpList_plain hg fun K hK' => ?_
  subst hL
  subst hC
  subst h4
  subst h5
  have h63' : (m : Int) ≤ 9223372036854775807 := by
    have h := b3
    simp [maxLen] at h
    omega
  have hb' : (i.bytes : Int) * (m : Int) ≤ 281474976710656 := by
    have h : ((i.bytes * m : Nat) : Int) ≤ 281474976710656 := by omega
    rwa [Int.natCast_mul] at h
  have hr := run_make (P := P) w t e i z h1 h2 h3 kl kc n m (by omega) (by omega) hb' h63'
  simp only [Int.toNat_natCast] at hr
  unfold Oper.wp
  simp [execOp, hop, hl, hc, hr, Result.andThen]
  exact hK' _ _ hK

/-- Block b of the world holds just these cells of elements of type e, none of them frozen. -/
def Blk (w : World) (b : Nat) (e : TypeId) (cs : List Value) : Prop := w.heap[b]? = some (.cells cs.toArray e (0, 0))

theorem Blk.lt {w : World} {b : Nat} {e : TypeId} {cs : List Value} (h : Blk w b e cs) : b < w.heap.size := (Array.getElem?_eq_some_iff.1 h).1
theorem Blk.cell {w : World} {b : Nat} {e : TypeId} {cs : List Value} (h : Blk w b e cs) (j : Nat) : w.cell? ⟨b, j, none⟩ = cs[j]? := by
  rw [cell_of_row w b j cs.toArray e (0, 0) h]; simp
theorem Blk.frozen {w : World} {b : Nat} {e : TypeId} {cs : List Value} (h : Blk w b e cs) (j : Nat) : w.frozen? ⟨b, j, none⟩ = false := frozen_of_row w b j cs.toArray e h
theorem Blk.set {w : World} {b : Nat} {e : TypeId} {cs : List Value} (h : Blk w b e cs) (j : Nat) (u : Value) : Blk (w.setCell ⟨b, j, none⟩ u) b e (cs.set j u) := by
  unfold Blk
  rw [heap_setCell_same w b j cs.toArray e u h]
  simp
theorem Blk.of_below {B : Nat} {w w' : World} {b : Nat} {e : TypeId} {cs : List Value} (h : Blk w b e cs) (hb : Below B w w') (hB : b < B) : Blk w' b e cs := by
  unfold Blk
  rw [hb.block b hB]
  exact h
theorem Blk.alloc (w : World) (e : TypeId) (cs : List Value) : Blk (w.alloc (.cells cs.toArray e)) w.heap.size e cs := heap_alloc_new w _

/-- The numbers as cells. -/
def ints (k : IntKind) (zs : List Int) : List Value := zs.map (Value.int k)
theorem ints_len (k : IntKind) (zs : List Int) : (ints k zs).length = zs.length := by simp [ints]
theorem ints_get (k : IntKind) (zs : List Int) (j : Nat) (h : j < zs.length) : (ints k zs)[j]? = some (.int k (nth zs j)) := by
  simp [ints, h, nth_get h]
theorem ints_set (k : IntKind) (zs : List Int) (j : Nat) (x : Int) : (ints k zs).set j (.int k x) = ints k (zs.set j x) := by
  simp [ints, List.map_set]

theorem Blk.row {k : IntKind} {w : World} {b e : Nat} {zs : List Int} (h : Blk w b e (ints k zs)) : Row k w (some ⟨b, 0, none⟩) zs := by
  intro j hj
  refine ⟨b, 0, rfl, h.lt, ?_⟩
  rw [Nat.zero_add, h.cell, ints_get _ _ _ hj]

theorem Blk.later {w : World} {b : Nat} {e : TypeId} {cs : List Value} (h : Blk w b e cs) (o : Obj) : Blk (w.alloc o) b e cs := by
  unfold Blk
  rw [Below.heap_alloc _ _ _ h.lt]
  exact h

theorem nth_set_same {zs : List Int} {j : Nat} {x : Int} (h : j < zs.length) : nth (zs.set j x) j = x := by simp [nth, h]
theorem nth_set_ne {zs : List Int} {i j : Nat} {x : Int} (h : i ≠ j) : nth (zs.set j x) i = nth zs i := by
  simp [nth, List.getElem?_set_ne (fun e => h e.symm)]

/-- 'make([]T, l, c)' of elements of one cell: the world behind it a letter, of which all is known that is wanted. -/
theorem wpList_make_blk {P : Program} (w : World) {ops : Array Oper} {rest : List Oper} {o : Oper} {a : Act} {Q : Exit → Act → World → Prop}
    (hg : o.guard = none) (l c : Operand) (t : TypeId) (hop : o.op = Op.makeSlice t l c)
    (e : TypeId) (i : TypeInfo) (z : Value) (bytes : Nat) (h1 : P.underlying t = some (.slice e)) (h2 : P.info? e = some i) (h3 : i.zero = some z) (h4 : i.size = 1) (h5 : i.bytes = bytes) (h6 : z.cells = #[z])
    (kl kc : IntKind) (L C : Int) (n m : Nat) (hl : a.eval l = .int kl L) (hc : a.eval c = .int kc C) (hL : L = (n : Int)) (hC : C = (m : Int)) (b1 : n ≤ m) (b2 : bytes * m ≤ 281474976710656) (b3 : m ≤ maxLen)
    (hK : ∀ w', Blk w' w.heap.size e (List.replicate m z) → Below w.heap.size w w' → w'.heap.size = w.heap.size + 1 → wpList P ops Q rest (a.put o.dst (.slice (some ⟨w.heap.size, 0, none⟩) n m)) w') :
    wpList P ops Q (o :: rest) a w := by
  refine wpList_make_at w hg l c t hop e i z 1 bytes h1 h2 h3 h4 h5 kl kc L C n m hl hc hL hC b1 b2 b3 (hK _ ?_ ((Below.refl _ _).alloc (Nat.le_refl _) _) (by simp))
  have hm : madeCells z.cells (m * 1) = (List.replicate m z).toArray := by
    rw [h6, Nat.mul_one]
    apply Array.toList_inj.1
    exact toList_madeCells_one _ _
  rw [hm]
  exact Blk.alloc w e _

end Go.Proofs.Qxb6003016aMods

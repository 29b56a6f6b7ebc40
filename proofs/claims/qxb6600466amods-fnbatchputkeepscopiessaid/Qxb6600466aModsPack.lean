import Derived.Test.Qxb6600466aModsLeaf
import Derived.Deep.RegionHeld3
import Derived.Deep.RegionLaw
import Derived.Deep.DrawnRows
namespace Go.Proofs.Qxb6600466aMods
open Go.RowKit
set_option linter.unusedVariables false
set_option linter.unusedSimpArgs false
attribute [local go_sem ↓] Go.wp_at_zero Go.wp_at_succ

/-- The first k bytes of the nibbles packed two to a byte. -/
def pk (zs : List Int) (k : Nat) : List Int := (List.range k).map fun j => 16 * nth zs (2 * j) + nth zs (2 * j + 1)
theorem pk_len (zs : List Int) (k : Nat) : (pk zs k).length = k := by simp [pk]
theorem pk_succ (zs : List Int) (k : Nat) : pk zs (k + 1) = pk zs k ++ [16 * nth zs (2 * k) + nth zs (2 * k + 1)] := by simp [pk, List.range_succ]

def Nib (zs : List Int) : Prop := ∀ j, 0 ≤ nth zs j ∧ nth zs j ≤ 15

theorem Blk.later {w : World} {b : Nat} {e : TypeId} {cs : List Value} (h : Blk w b e cs) (o : Obj) : Blk (w.alloc o) b e cs := by
  unfold Blk
  rw [Below.heap_alloc _ _ _ h.lt]
  exact h

/-- append of one element of one cell, where there is room, onto a block that is known whole: as one step of a region that draws. -/
theorem step_append_blk {P : Program} {ops : Array Oper} {o : Oper} {a : Act} {w : World} {K : Act → World → Prop} {Q : Exit → Act → World → Prop} {E : Prop}
    (hg : o.guard = none) (s x : Operand) (t : TypeId) (hop : o.op = Op.call { callee := Callee.builtin Builtin.append, args := #[s, x], argTypes := #[t, t] })
    (e : TypeId) (i : TypeInfo) (h1 : P.underlying t = some (.slice e)) (h2 : P.info? e = some i) (h4 : i.size = 1)
    (g n cap : Nat) (cs : List Value) (hs : a.eval s = .slice (some ⟨g, 0, none⟩) n cap) (m : Nat) (v : Value) (hx : a.eval x = .slice (some ⟨m, 0, none⟩) 1 1) (hv : Blk w m e [v]) (h1c : v.oneCell' = true)
    (hb : Blk w g e cs) (hroom : n + 1 ≤ cap) (hlen : n < cs.length)
    (hK : K (a.put o.dst (.slice (some ⟨g, 0, none⟩) (n + 1) cap)) (w.setCell ⟨g, n, none⟩ v)) :
    if Region.wanted o (yielded ops a.tmps) = true then Oper.wp P o a w K Q else E := by
  refine step_append_room hg s x t hop e i 1 h1 h2 h4 g 0 n cap hs ⟨m, 0, none⟩ 1 1 [v] hx rfl ?_ (by simpa using h1c) hroom ?_ ?_
  · intro j u hu
    match j, hu with
    | 0, hu =>
      simp only [List.getElem?_cons_zero, Option.some.injEq] at hu
      subst hu
      rw [Addr.add_lit, hv.cell]
      rfl
  · intro j hj
    have h0 : j = 0 := by simp at hj; omega
    subst h0
    rw [hb.cell, hb.frozen]
    simp
    omega
  · have : w.setCells g (0 + n * 1) [v] = w.setCell ⟨g, n, none⟩ v := by simp [World.setCells]
    rw [this]
    exact hK

theorem cell_setfar {w : World} {o : Obj} {g j : Nat} {u : Value} {b off : Nat} {v : Value} (h : w.cell? ⟨b, off, none⟩ = some v) (hne : b ≠ g) : ((w.alloc o).drew.setCell ⟨g, j, none⟩ u).cell? ⟨b, off, none⟩ = some v := by
  rw [World.cell?_of_block (w := (w.alloc o).drew) (Below.heap_setCell _ _ _ _ (by exact hne))]
  show (w.alloc o).cell? _ = _
  rw [World.cell?_of_block (w := w) (Below.heap_alloc _ _ _ (World.block_lt_of_cell? w _ h))]
  exact h

theorem grown_set {w0 w : World} {o : Obj} {g j : Nat} {u : Value} (h : w0.grownBy w (some g)) : w0.grownBy ((w.alloc o).drew.setCell ⟨g, j, none⟩ u) (some g) := by
  refine ⟨h.os, h.tape, h.output, ?_, ?_⟩
  · have := h.size
    simp
    omega
  · intro k hk hne
    have hne' : k ≠ g := fun e => hne (by rw [e])
    rw [Below.heap_setCell _ _ _ _ (by exact hne')]
    show (w.alloc o).heap[k]? = _
    rw [Below.heap_alloc _ _ _ (Nat.lt_of_lt_of_le hk h.size)]
    exact h.block k hk hne

theorem pack_or (x y : Int) (hx : 0 ≤ x ∧ x ≤ 15) (hy : 0 ≤ y ∧ y ≤ 15) : bits .or .u8 (IntKind.u8.wrap (x * 16)) y = 16 * x + y := by
  have h1 : IntKind.u8.wrap (x * 16) = 16 * x := by rw [IntKind.wrap_u8]; omega
  rw [h1]
  exact bits_join .u8 8 (by decide) wraps_u8 4 (16 * x) y (by omega) (by omega) (by omega) (by omega) (by omega) (by omega)

theorem pack_step {ds zs : List Int} {tl : List Value} {k d : Nat} {x : Int} (hd : ds.length = d) (hx : x = 16 * nth zs (2 * k) + nth zs (2 * k + 1)) (ht : k < tl.length) :
    (u8s (ds ++ pk zs k) ++ tl.drop k).set (d + k) (.int .u8 x) = u8s (ds ++ pk zs (k + 1)) ++ tl.drop (k + 1) := by
  have hl : (u8s (ds ++ pk zs k)).length = d + k := by simp [u8s, pk_len, hd]
  have h2 : (tl.drop k).set 0 (Value.int .u8 x) = .int .u8 x :: tl.drop (k + 1) := by rw [List.drop_eq_getElem_cons ht]; rfl
  rw [List.set_append_right _ _ (by omega), hl, pk_succ, ← hx, Nat.sub_self, h2]
  simp [u8s]

set_option maxRecDepth 100000 in
set_option maxHeartbeats 1600000 in
theorem appendPacked_any (g d cap : Nat) (ds : List Int) (tl : List Value) (ad : Option Addr) (n c : Nat) (zs : List Int) (w : World) (hd : ds.length = d) (hblk : Blk w g 5 (u8s ds ++ tl)) (htl : d + tl.length = cap)
    (hz : zs.length = n) (hn : n ≤ 1048576) (hcap : cap ≤ 1048576) (hev : n % 2 = 0) (hroom : d + n / 2 ≤ cap) (hrow : Row .u8 w ad zs) (hnib : Nib zs) (hap : ∀ b off, ad = some ⟨b, off, none⟩ → b ≠ g) :
    Calls Trym.prog 32 #[.slice (some ⟨g, 0, none⟩) d cap, .slice ad n c] w fun e w' => e = .returned (.slice (some ⟨g, 0, none⟩) (d + n / 2) cap) ∧ Blk w' g 5 (u8s (ds ++ pk zs (n / 2)) ++ tl.drop (n / 2)) ∧ w.grownBy w' (some g) := by
  obtain ⟨i0, hi, hz0, hz1, hz2⟩ := info_parts Trym.info5
  have HZ : Hid (zs.length = n) := hz
  have HD : Hid (ds.length = d) := hd
  have HT : Hid (d + tl.length = cap) := htl
  clear hz hd htl
  go_enter Trym.func32, Trym.ntmps32
  go_wp2
  go_loopw [0, 5] (fun v i wr => ∃ m k : Nat, m ≤ n ∧ Hid (m = 2 * k) ∧ i = .int .i64 m ∧ v = .slice (some ⟨g, 0, none⟩) (d + k) cap ∧ Blk wr g 5 (u8s (ds ++ pk zs k) ++ tl.drop k) ∧ w.grownBy wr (some g)) (fun _ i _ => n - (intOf i).toNat)
  case atStart => exact ⟨0, 0, Nat.zero_le _, rfl, rfl, rfl, by simpa [pk] using hblk, World.grownBy.refl _ _⟩
  case round =>
    obtain ⟨m, k, hk, HK, rfl, rfl, hb, hg⟩ := hrel
    by_cases hlt : m < n
    · have hlt2 : m + 1 < n := by have := HK.out; omega
      obtain ⟨b, off, rfl, hlb, hc0⟩ := hrow m (by rw [HZ.out]; exact hlt)
      obtain ⟨b', off', ha', hlb', hc1⟩ := hrow (m + 1) (by rw [HZ.out]; omega)
      cases ha'
      have hne := hap b off rfl
      have c0 : wr.cell? ⟨b, off + m, none⟩ = some (.int .u8 (nth zs m)) := hg.cell hc0 (by simpa using hne)
      have c1 : wr.cell? ⟨b, off + (m + 1), none⟩ = some (.int .u8 (nth zs (m + 1))) := hg.cell hc1 (by simpa using hne)
      have h1 : (0 : Int) ≤ (m : Int) := by omega
      have h2 : (m : Int) < (n : Int) := by omega
      have h3 : (m : Int) + 1 < (n : Int) := by omega
      have h4 : (0 : Int) ≤ (m : Int) + 1 := by omega
      have h5 : ((m : Int) + 1).toNat = m + 1 := by omega
      have hwr : IntKind.i64.wrap ((m : Int) + 1) = (m : Int) + 1 := by rw [IntKind.wrap_i64]; omega
      have hn0 := hnib m
      have hn1 := hnib (m + 1)
      go_wp2
      go_region_held3 (fun w' => w'.cell? ⟨b, off + m, none⟩ = some (.int .u8 (nth zs m)) ∧ w'.cell? ⟨b, off + (m + 1), none⟩ = some (.int .u8 (nth zs (m + 1)))) (first | go_keep | exact ⟨cell_setfar c0 hne, cell_setfar c1 hne⟩)
        ((refine step_append_blk (by rfl) _ _ _ (by rfl) 5 i0 Trym.underlying22 hi hz1 g (d + k) cap (u8s (ds ++ pk zs k) ++ tl.drop k) (by rfl) wr.heap.size _ (by rfl) (heap_alloc_new wr _) (by rfl) (hb.later _) (by have := HK.out; omega) (by have := HK.out; have := HT.out; have := HD.out; simp [u8s, pk_len]; omega) ?_))
      rw [pack_or _ _ hn0 hn1]
      have hkt : k < tl.length := by have := HK.out; have := HT.out; omega
      have R1 : Hid (Blk ((wr.alloc (.cells #[.int .u8 (16 * nth zs m + nth zs (m + 1))] 5)).drew.setCell ⟨g, d + k, none⟩ (.int .u8 (16 * nth zs m + nth zs (m + 1)))) g 5 (u8s (ds ++ pk zs (k + 1)) ++ tl.drop (k + 1))) := by
        rw [← pack_step (x := 16 * nth zs m + nth zs (m + 1)) HD.out (by rw [HK.out]) hkt]
        exact Blk.set (hb.later _) _ _
      have R2 : Hid (w.grownBy ((wr.alloc (.cells #[.int .u8 (16 * nth zs m + nth zs (m + 1))] 5)).drew.setCell ⟨g, d + k, none⟩ (.int .u8 (16 * nth zs m + nth zs (m + 1)))) (some g)) := grown_set hg
      clear hg hb c0 c1
      go_wp2
      go_roundw
      case rel => exact ⟨m + 2, k + 1, by omega, by unfold Hid; have := HK.out; omega, by go_num, rfl, R1.out, R2.out⟩
      case measure => simp [intOf]; omega
    · have := HK.out
      have : n / 2 = k := by omega
      go_wp2
      go_ret
      rw [this]
      exact ⟨rfl, hb, hg⟩

def flagOf (leaf : Bool) : Int := if leaf then 2 else 0
/-- The compact encoding of a path. -/
def hexP (zs : List Int) (leaf : Bool) : List Int :=
  if zs.length % 2 = 1 then (16 * (flagOf leaf + 1) + nth zs 0) :: pk zs.tail (zs.length / 2) else (16 * flagOf leaf) :: pk zs (zs.length / 2)

theorem nth_tail (zs : List Int) (j : Nat) : nth zs.tail j = nth zs (j + 1) := by
  cases zs <;> simp [nth]

/-- 'make([]T, l, c)' of elements of one cell: the world behind it a letter, of which all is known that is wanted. -/
theorem wpList_make_blk {P : Program} (w : World) {ops : Array Oper} {rest : List Oper} {o : Oper} {a : Act} {Q : Exit → Act → World → Prop}
    (hg : o.guard = none) (l c : Operand) (t : TypeId) (hop : o.op = Op.makeSlice t l c)
    (e : TypeId) (i : TypeInfo) (z : Value) (bytes : Nat) (h1 : P.underlying t = some (.slice e)) (h2 : P.info? e = some i) (h3 : i.zero = some z) (h4 : i.size = 1) (h5 : i.bytes = bytes) (h6 : z.cells = #[z])
    (kl kc : IntKind) (L C : Int) (n m : Nat) (hl : a.eval l = .int kl L) (hc : a.eval c = .int kc C) (hL : L = (n : Int)) (hC : C = (m : Int)) (b1 : n ≤ m) (b2 : bytes * m ≤ 281474976710656) (b3 : m ≤ maxLen)
    (hK : ∀ w', Blk w' w.heap.size e (List.replicate m z) → Below w.heap.size w w' → w'.heap.size = w.heap.size + 1 → wpList P ops Q rest (a.put o.dst (.slice (some ⟨w.heap.size, 0, none⟩) n m)) w') :
    wpList P ops Q (o :: rest) a w := by
  refine wpList_make_at w hg l c t hop e i z 1 bytes h1 h2 h3 h4 h5 kl kc L C n m hl hc hL hC b1 b2 b3 (hK _ ?_ ((Below.refl _ _).alloc (Nat.le_refl _) _) (by simp))
  have hm : madeCells z.cells (m * 1) = (List.replicate m z).toArray := by
    rw [h6, Nat.mul_one]
    apply Array.toList_inj.1
    exact toList_madeCells_one _ _
  rw [hm]
  exact Blk.alloc w e _

theorem Row.apart {k : IntKind} {w : World} {ad : Option Addr} {zs : List Int} (h : Row k w ad zs) (h0 : 0 < zs.length) : ∀ b off, ad = some ⟨b, off, none⟩ → b < w.heap.size := by
  intro b off e
  obtain ⟨b', off', e', h1, _⟩ := h 0 h0
  rw [e] at e'
  simp only [Option.some.injEq, Addr.mk.injEq] at e'
  obtain ⟨rfl, _⟩ := e'
  exact h1

theorem hexP_even {zs : List Int} {leaf : Bool} {n : Nat} (hz : zs.length = n) (he : n % 2 = 0) : hexP zs leaf = [16 * flagOf leaf] ++ pk zs (n / 2) := by
  unfold hexP
  rw [hz, if_neg (by omega)]
  rfl
theorem hexP_odd {zs : List Int} {leaf : Bool} {n : Nat} (hz : zs.length = n) (he : n % 2 = 1) : hexP zs leaf = [16 * (flagOf leaf + 1) + nth zs 0] ++ pk zs.tail (n / 2) := by
  unfold hexP
  rw [hz, if_pos he]
  rfl

theorem first_set {w : World} {G m : Nat} {z : Value} {x : Int} (h : Blk w G 5 (List.replicate (1 + m) z)) : Blk (w.setCell ⟨G, 0, none⟩ (.int .u8 x)) G 5 (u8s [x] ++ List.replicate m z) := by
  have := h.set 0 (.int .u8 x)
  rw [Nat.add_comm, List.replicate_succ] at this
  exact this

theorem below_grown {w w1 w2 : World} {G : Nat} (hG : w.heap.size = G) (h : Below G w w1) (hs : w1.heap.size = G + 1) (hg : w1.grownBy w2 (some G)) : Below G w w2 :=
  h.grown hg (by omega) (fun k e => by cases e; exact Nat.le_refl _)

theorem Nib.tail {zs : List Int} (h : Nib zs) : Nib zs.tail := by
  intro j
  rw [nth_tail]
  exact h (j + 1)

theorem Row.setFar {k : IntKind} {w : World} {ad : Option Addr} {zs : List Int} (h : Row k w ad zs) {G j : Nat} {u : Value} (hap : ∀ b off, ad = some ⟨b, off, none⟩ → b ≠ G) : Row k (w.setCell ⟨G, j, none⟩ u) ad zs := by
  intro i hi
  obtain ⟨b, off, e, h1, h2⟩ := h i hi
  refine ⟨b, off, e, by simpa using h1, ?_⟩
  rw [World.cell?_of_block (w := w) (Below.heap_setCell _ _ _ _ (by exact hap b off e))]
  exact h2

set_option maxRecDepth 100000 in
set_option maxHeartbeats 800000 in
theorem hexPrefix_even (ad : Option Addr) (n c : Nat) (zs : List Int) (leaf : Bool) (w : World) (hz : zs.length = n) (hn : n ≤ 1048576) (hrow : Row .u8 w ad zs) (hnib : Nib zs) (hap : ∀ b off, ad = some ⟨b, off, none⟩ → b < w.heap.size) (hev : n % 2 = 0) :
    Calls Trym.prog 29 #[.slice ad n c, .bool leaf] w fun e w' => e = .returned (.slice (some ⟨w.heap.size, 0, none⟩) (1 + n / 2) (1 + n / 2)) ∧ Blk w' w.heap.size 5 (u8s (hexP zs leaf)) ∧ Below w.heap.size w w' := by
  obtain ⟨i0, hi, hz0, hz1, hz2⟩ := info_parts Trym.info5
  have HO : Hid (hexP zs leaf = [16 * flagOf leaf] ++ pk zs (n / 2)) := hexP_even hz hev
  have HZ : Hid (zs.length = n) := hz
  clear hz
  have hm0 : (n : Int) % 2 = 0 := by omega
  have hap' : ∀ b off, ad = some ⟨b, off, none⟩ → b ≠ w.heap.size := fun b off e => Nat.ne_of_lt (hap b off e)
  cases leaf
  · go_enter Trym.func29, Trym.ntmps29
    go_wp2_with (at_make; refine wpList_make_blk _ rfl _ _ 22 rfl 5 i0 (.int .u8 0) 1 Trym.underlying22 hi hz0 hz1 hz2 rfl _ _ _ _ 1 (1 + n / 2) rfl rfl rfl (by omega) (by omega) (by omega) (by unfold maxLen; omega) ?_)
    intro w1 hb1 hbel1 hs1
    have hc0 : w1.cell? ⟨w.heap.size, 0, none⟩ = some (.int .u8 0) := by
      rw [hb1.cell, List.getElem?_replicate, if_pos (by omega)]
    have hf0 := hb1.frozen 0
    have HS : Hid (w1.heap.size = w.heap.size + 1) := hs1
    clear hs1
    go_wp2_with fail
    refine (appendPacked_any w.heap.size 1 (1 + n / 2) [0] (List.replicate (n / 2) (.int .u8 0)) ad n c zs _ rfl (first_set hb1) (by simp) HZ.out hn (by omega) hev (by omega) ((hrow.below hbel1).setFar hap') hnib hap').mono ?_
    rintro e w2 ⟨rfl, hb2, hg2⟩
    have R := below_grown rfl (hbel1.setCell (p := ⟨w.heap.size, 0, none⟩) (Nat.le_refl _) _) (by simpa using HS.out) hg2
    clear hc0 hf0 hb1 hbel1 hg2
    go_wp2
    go_ret
    refine ⟨rfl, ?_, R⟩
    rw [HO.out]
    simpa [flagOf] using hb2
  · go_enter Trym.func29, Trym.ntmps29
    go_wp2_with (at_make; refine wpList_make_blk _ rfl _ _ 22 rfl 5 i0 (.int .u8 0) 1 Trym.underlying22 hi hz0 hz1 hz2 rfl _ _ _ _ 1 (1 + n / 2) rfl rfl rfl (by omega) (by omega) (by omega) (by unfold maxLen; omega) ?_)
    intro w1 hb1 hbel1 hs1
    have hc0 : w1.cell? ⟨w.heap.size, 0, none⟩ = some (.int .u8 0) := by
      rw [hb1.cell, List.getElem?_replicate, if_pos (by omega)]
    have hf0 := hb1.frozen 0
    have HS : Hid (w1.heap.size = w.heap.size + 1) := hs1
    clear hs1
    go_wp2_with fail
    refine (appendPacked_any w.heap.size 1 (1 + n / 2) [32] (List.replicate (n / 2) (.int .u8 0)) ad n c zs _ rfl (first_set hb1) (by simp) HZ.out hn (by omega) hev (by omega) ((hrow.below hbel1).setFar hap') hnib hap').mono ?_
    rintro e w2 ⟨rfl, hb2, hg2⟩
    have R := below_grown rfl (hbel1.setCell (p := ⟨w.heap.size, 0, none⟩) (Nat.le_refl _) _) (by simpa using HS.out) hg2
    clear hc0 hf0 hb1 hbel1 hg2
    go_wp2
    go_ret
    refine ⟨rfl, ?_, R⟩
    rw [HO.out]
    simpa [flagOf] using hb2

theorem Row.tailOf {k : IntKind} {w : World} {b off : Nat} {zs : List Int} (h : Row k w (some ⟨b, off, none⟩) zs) {ao : Option Addr} (hao : 1 < zs.length → ao = some ⟨b, off + 1, none⟩) : Row k w ao zs.tail := by
  intro j hj
  rw [List.length_tail] at hj
  obtain ⟨b', off', e, h1, h2⟩ := h (j + 1) (by omega)
  cases e
  refine ⟨b, off + 1, hao (by omega), h1, ?_⟩
  rw [nth_tail, ← h2]
  congr 2
  omega

theorem or_flag (f y : Int) (hf : f = 1 ∨ f = 3) (hy : 0 ≤ y ∧ y ≤ 15) : bits .or .u8 (16 * f) y = 16 * f + y :=
  bits_join .u8 8 (by decide) wraps_u8 4 (16 * f) y (by omega) (by omega) (by omega) (by omega) (by omega) (by omega)

set_option maxRecDepth 100000 in
set_option maxHeartbeats 1600000 in
theorem hexPrefix_odd (ad : Option Addr) (n : Nat) (zs : List Int) (leaf : Bool) (w : World) (hz : zs.length = n) (hn : n ≤ 1048576) (hrow : Row .u8 w ad zs) (hnib : Nib zs) (hev : n % 2 = 1) (h1n : 1 < n) :
    Calls Trym.prog 29 #[.slice ad n n, .bool leaf] w fun e w' => e = .returned (.slice (some ⟨w.heap.size, 0, none⟩) (1 + n / 2) (1 + n / 2)) ∧ Blk w' w.heap.size 5 (u8s (hexP zs leaf)) ∧ Below w.heap.size w w' := by
  obtain ⟨i0, hi, hz0, hz1, hz2⟩ := info_parts Trym.info5
  have HO : Hid (hexP zs leaf = [16 * (flagOf leaf + 1) + nth zs 0] ++ pk zs.tail (n / 2)) := hexP_odd hz hev
  obtain ⟨b, off, rfl, hlb, hcz⟩ := hrow 0 (by omega)
  have HZ : Hid (zs.length = n) := hz
  clear hz
  have hm0 : (n : Int) % 2 = 1 := by omega
  have hap' := Nat.ne_of_lt hlb
  have hn0 := hnib 0
  have ho1 := or_flag 1 (nth zs 0) (by omega) hn0
  have ho3 := or_flag 3 (nth zs 0) (by omega) hn0
  simp only [show (16 : Int) * 1 = 16 from rfl, show (16 : Int) * 3 = 48 from rfl] at ho1 ho3
  cases leaf
  all_goals
    go_enter Trym.func29, Trym.ntmps29
    go_wp2_with (at_make; refine wpList_make_blk _ rfl _ _ 22 rfl 5 i0 (.int .u8 0) 1 Trym.underlying22 hi hz0 hz1 hz2 rfl _ _ _ _ 1 (1 + n / 2) rfl rfl rfl (by omega) (by omega) (by omega) (by unfold maxLen; omega) ?_)
    intro w1 hb1 hbel1 hs1
    have hc0 : w1.cell? ⟨w.heap.size, 0, none⟩ = some (.int .u8 0) := by
      rw [hb1.cell, List.getElem?_replicate, if_pos (by omega)]
    have hf0 := hb1.frozen 0
    have hcz1 : w1.cell? ⟨b, off, none⟩ = some (.int .u8 (nth zs 0)) := (hbel1.cell (p := ⟨b, off, none⟩) hlb).trans hcz
    have HS : Hid (w1.heap.size = w.heap.size + 1) := hs1
    clear hs1
    go_wp2_with fail
    refine (appendPacked_any w.heap.size 1 (1 + n / 2) [_] (List.replicate (n / 2) (.int .u8 0)) _ (n - 1) _ zs.tail _ rfl (first_set hb1) (by simp) (by rw [List.length_tail, HZ.out]) (by omega) (by omega) (by omega) (by omega) (((hrow.below hbel1).setFar (by rintro b' off' e; cases e; exact hap')).tailOf (by intro _; rfl)) hnib.tail (by rintro b' off' e; cases e; exact hap')).mono ?_
    rintro e w2 ⟨rfl, hb2, hg2⟩
    have R := below_grown rfl (hbel1.setCell (p := ⟨w.heap.size, 0, none⟩) (Nat.le_refl _) _) (by simpa using HS.out) hg2
    have e2 : (n - 1) / 2 = n / 2 := by omega
    rw [e2] at hb2
    clear hc0 hf0 hb1 hbel1 hg2
    go_wp2
    go_ret
    refine ⟨rfl, ?_, R⟩
    rw [HO.out]
    simpa [flagOf] using hb2

set_option maxRecDepth 100000 in
set_option maxHeartbeats 1600000 in
theorem hexPrefix_one (ad : Option Addr) (zs : List Int) (leaf : Bool) (w : World) (hz : zs.length = 1) (hrow : Row .u8 w ad zs) (hnib : Nib zs) :
    Calls Trym.prog 29 #[.slice ad 1 1, .bool leaf] w fun e w' => e = .returned (.slice (some ⟨w.heap.size, 0, none⟩) 1 1) ∧ Blk w' w.heap.size 5 (u8s (hexP zs leaf)) ∧ Below w.heap.size w w' := by
  obtain ⟨i0, hi, hz0, hz1, hz2⟩ := info_parts Trym.info5
  have HO : Hid (hexP zs leaf = [16 * (flagOf leaf + 1) + nth zs 0] ++ pk zs.tail (1 / 2)) := hexP_odd hz rfl
  obtain ⟨b, off, rfl, hlb, hcz⟩ := hrow 0 (by omega)
  have HZ : Hid (zs.length = 1) := hz
  clear hz
  have hap' := Nat.ne_of_lt hlb
  have hn0 := hnib 0
  have ho1 := or_flag 1 (nth zs 0) (by omega) hn0
  have ho3 := or_flag 3 (nth zs 0) (by omega) hn0
  simp only [show (16 : Int) * 1 = 16 from rfl, show (16 : Int) * 3 = 48 from rfl] at ho1 ho3
  cases leaf
  all_goals
    go_enter Trym.func29, Trym.ntmps29
    go_wp2_with (at_make; refine wpList_make_blk _ rfl _ _ 22 rfl 5 i0 (.int .u8 0) 1 Trym.underlying22 hi hz0 hz1 hz2 rfl _ _ _ _ 1 1 rfl rfl rfl rfl (by omega) (by omega) (by unfold maxLen; omega) ?_)
    intro w1 hb1 hbel1 hs1
    have hc0 : w1.cell? ⟨w.heap.size, 0, none⟩ = some (.int .u8 0) := by
      rw [hb1.cell]; rfl
    have hf0 := hb1.frozen 0
    have hcz1 : w1.cell? ⟨b, off, none⟩ = some (.int .u8 (nth zs 0)) := (hbel1.cell (p := ⟨b, off, none⟩) hlb).trans hcz
    have HS : Hid (w1.heap.size = w.heap.size + 1) := hs1
    clear hs1
    go_wp2_with fail
    refine (appendPacked_any w.heap.size 1 1 [_] [] _ 0 _ zs.tail _ rfl (first_set (m := 0) hb1) (by simp) (by rw [List.length_tail, HZ.out]) (by omega) (by omega) (by omega) (by omega) (((hrow.below hbel1).setFar (by rintro b' off' e; cases e; exact hap')).tailOf (by rw [HZ.out]; intro h; omega)) hnib.tail (by rintro b' off' e; cases e; exact hap')).mono ?_
    rintro e w2 ⟨rfl, hb2, hg2⟩
    have R := below_grown rfl (hbel1.setCell (p := ⟨w.heap.size, 0, none⟩) (Nat.le_refl _) _) (by simpa using HS.out) hg2
    clear hc0 hf0 hb1 hbel1 hg2
    go_wp2
    go_ret
    refine ⟨rfl, ?_, R⟩
    rw [HO.out]
    simpa [flagOf] using hb2

theorem hexPrefix_any (ad : Option Addr) (n : Nat) (zs : List Int) (leaf : Bool) (w : World) (hz : zs.length = n) (hn : n ≤ 1048576) (hrow : Row .u8 w ad zs) (hnib : Nib zs) (hap : ∀ b off, ad = some ⟨b, off, none⟩ → b < w.heap.size) :
    Calls Trym.prog 29 #[.slice ad n n, .bool leaf] w fun e w' => e = .returned (.slice (some ⟨w.heap.size, 0, none⟩) (1 + n / 2) (1 + n / 2)) ∧ Blk w' w.heap.size 5 (u8s (hexP zs leaf)) ∧ Below w.heap.size w w' := by
  by_cases hev : n % 2 = 0
  · exact hexPrefix_even ad n n zs leaf w hz hn hrow hnib hap hev
  · by_cases h1 : n = 1
    · subst h1
      exact hexPrefix_one ad zs leaf w hz hrow hnib
    · exact hexPrefix_odd ad n zs leaf w hz hn hrow hnib (by omega) (by omega)

theorem ZZHexPrefix_any (ad : Option Addr) (n : Nat) (zs : List Int) (leaf : Bool) (w : World) (hz : zs.length = n) (hn : n ≤ 1048576) (hrow : Row .u8 w ad zs) (hnib : Nib zs) (hap : ∀ b off, ad = some ⟨b, off, none⟩ → b < w.heap.size) :
    Calls Trym.prog 14 #[.slice ad n n, .bool leaf] w fun e w' => e = .returned (.slice (some ⟨w.heap.size, 0, none⟩) (1 + n / 2) (1 + n / 2)) ∧ Blk w' w.heap.size 5 (u8s (hexP zs leaf)) ∧ Below w.heap.size w w' := by
  have HZ : Hid (zs.length = n) := hz
  clear hz
  go_enter Trym.func14, Trym.ntmps14
  go_wp2_with fail
  refine (hexPrefix_any ad n zs leaf w HZ.out hn hrow hnib hap).mono ?_
  rintro e w2 ⟨rfl, hb2, hg2⟩
  go_wp2
  go_ret
  exact ⟨rfl, hb2, hg2⟩

end Go.Proofs.Qxb6600466aMods

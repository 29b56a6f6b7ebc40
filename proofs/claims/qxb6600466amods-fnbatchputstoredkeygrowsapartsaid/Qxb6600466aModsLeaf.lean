import Derived.Test.Qxb6600466aModsRows
import Derived.Test.Qxb6600466aModsPlain
import Derived.WalkKit
import Derived.WalkSpells
import Derived.WalkLawsBesides
import Derived.Deep.QuietTactic
import Derived.BigQuiet
namespace Go.Proofs.Qxb6600466aMods
open Go.RowKit
set_option linter.unusedVariables false
set_option linter.unusedSimpArgs false

theorem allNibbles_any (ad : Option Addr) (n cap : Nat) (zs : List Int) (w : World) (hz : zs.length = n) (hn : n ≤ maxLen) (hrow : Row .u8 w ad zs) :
    Calls Trym.prog 12 #[.slice ad n cap] w fun e w' => e = .returned (.bool (allB zs)) ∧ w = w' := by
  unfold maxLen at hn
  have HZ : Hid (zs.length = n) := hz
  clear hz
  go_enter Trym.func12, Trym.ntmps12
  go_wp2
  go_loop [3] (fun i => ∃ k : Nat, k ≤ n ∧ i = .int .i64 k ∧ allB (zs.take k) = true) (fun i => n - (intOf i).toNat)
  case atStart => exact ⟨0, Nat.zero_le _, rfl, rfl⟩
  case round =>
    obtain ⟨k, hk, rfl, hall⟩ := hrel
    by_cases hlt : k < n
    · obtain ⟨b, off, rfl, _, hc⟩ := hrow k (by rw [HZ.out]; exact hlt)
      have HA : Hid (allB (zs.take k) = true) := hall
      clear hall
      by_cases h15 : 15 < nth zs k
      · have HF : Hid (allB zs = false) := allB_take_false (by rw [HZ.out]; exact hlt) h15
        go_wp2
        go_ret
        rw [HF.out]
        exact ⟨rfl, rfl⟩
      · have HF : Hid (allB (zs.take (k + 1)) = true) := allB_take_snoc (by rw [HZ.out]; exact hlt) HA.out (by omega)
        go_wp2
        go_round
        case rel => exact ⟨k + 1, by omega, by go_num, HF.out⟩
        case measure => simp [intOf]; omega
    · have HF : Hid (allB zs = true) := by
        have : zs.take k = zs := List.take_of_length_le (by rw [HZ.out]; omega)
        rw [this] at hall
        exact hall
      clear hall
      go_wp2
      go_ret
      rw [HF.out]
      exact ⟨rfl, rfl⟩

theorem ret_u8 {a b : Int} (h : a = b) : Ending.returned (.int .u8 a) = .returned (.int .u8 b) := by rw [h]

theorem nibbleAt_any (ad : Option Addr) (n cap : Nat) (zs : List Int) (i : Int) (w : World) (hz : zs.length = n) (hn : n ≤ maxLen) (hrow : Row .u8 w ad zs) (hb : Byt zs) (h0 : 0 ≤ i) (hi : i < 2 * n) :
    Calls Trym.prog 33 #[.slice ad n cap, .int .i64 i] w fun e w' => e = .returned (.int .u8 (nibAt zs i.toNat)) ∧ w = w' := by
  unfold maxLen at hn
  obtain ⟨m, rfl⟩ := Int.eq_ofNat_of_zero_le h0
  obtain ⟨b, off, rfl, _, hc⟩ := hrow (m / 2) (by omega)
  have hb1 := hb (m / 2)
  by_cases hm : (m : Int) % 2 = 0
  · have HF : Hid (nibAt zs (m : Int).toNat = nth zs (m / 2) / 16) := nibAt_even (by omega)
    go_enter Trym.func33, Trym.ntmps33
    go_wp2
    go_ret
    exact ⟨ret_u8 HF.out.symm, rfl⟩
  · have HF : Hid (nibAt zs (m : Int).toNat = nth zs (m / 2) % 16) := nibAt_odd (by omega)
    go_enter Trym.func33, Trym.ntmps33
    go_wp2
    go_ret
    exact ⟨ret_u8 HF.out.symm, rfl⟩

theorem all_snoc {zs ys : List Int} {k : Nat} (h : ∀ j, j < k → nth zs j = nth ys j) (e : nth zs k = nth ys k) : ∀ j, j < k + 1 → nth zs j = nth ys j := by
  intro j hj
  by_cases hjk : j < k
  · exact h j hjk
  · have : j = k := by omega
    subst this
    exact e

theorem eqBytes_any (ad : Option Addr) (n cap : Nat) (zs : List Int) (ad' : Option Addr) (n' cap' : Nat) (ys : List Int) (w : World) (hz : zs.length = n) (hn : n ≤ maxLen) (hrow : Row .u8 w ad zs)
    (hz' : ys.length = n') (hn' : n' ≤ maxLen) (hrow' : Row .u8 w ad' ys) :
    Calls Trym.prog 16 #[.slice ad n cap, .slice ad' n' cap'] w fun e w' => e = .returned (.bool (eqB zs ys)) ∧ ∃ q, w' = w.drewN q := by
  unfold maxLen at hn hn'
  have HZ : Hid (zs.length = n) := hz
  have HY : Hid (ys.length = n') := hz'
  clear hz hz'
  by_cases hnn : n = n'
  · subst hnn
    go_enter Trym.func16, Trym.ntmps16
    go_wp2
    go_loopw [5] (fun i wr => ∃ k : Nat, k ≤ n ∧ i = .int .i64 k ∧ (∀ j, j < k → nth zs j = nth ys j) ∧ ∃ q, wr = w.drewN q) (fun i _ => n - (intOf i).toNat)
    case atStart => exact ⟨0, Nat.zero_le _, rfl, fun j hj => absurd hj (Nat.not_lt_zero _), 0, rfl⟩
    case round =>
      obtain ⟨k, hk, rfl, hall, q, rfl⟩ := hrel
      have HA : Hid (∀ j, j < k → nth zs j = nth ys j) := hall
      clear hall
      by_cases hlt : k < n
      · obtain ⟨b, off, rfl, _, hc⟩ := hrow k (by rw [HZ.out]; exact hlt)
        obtain ⟨b', off', rfl, _, hc'⟩ := hrow' k (by rw [HY.out]; exact hlt)
        have h1 : (0 : Int) ≤ (k : Int) := by omega
        have h2 : (k : Int) < (n : Int) := by omega
        by_cases heq : nth zs k = nth ys k
        · have HE : Hid (nth zs k = nth ys k) := heq
          have hne : (nth zs k != nth ys k) = false := by simp [heq]
          clear heq
          go_wp2
          go_quiet (fail)
          go_wp2
          go_roundw
          case rel => exact ⟨k + 1, by omega, by go_num, all_snoc HA.out HE.out, _, rfl⟩
          case measure => simp [intOf]; omega
        · have hne : (nth zs k != nth ys k) = true := by simp [heq]
          go_wp2
          go_quiet (fail)
          go_wp2
          go_ret
          rw [eqB_ne_at heq]
          exact ⟨rfl, _, by simp; rfl⟩
      · go_wp2
        go_ret
        have : eqB zs ys = true := eqB_take (by rw [HZ.out, HY.out]) (fun j hj => HA.out j (by have := HZ.out; omega))
        rw [this]
        exact ⟨rfl, q, rfl⟩
  · have HF : Hid (eqB zs ys = false) := eqB_ne_len (by rw [HZ.out, HY.out]; exact hnn)
    have hne : ((n : Int) != (n' : Int)) = true := by simp; omega
    go_enter Trym.func16, Trym.ntmps16
    go_wp2
    go_ret
    rw [HF.out]
    exact ⟨rfl, 0, rfl⟩

theorem Trym.info5 : (Trym.prog.info? 5).map (fun i => (i.zero, i.size, i.bytes)) = some (some (.int .u8 0), 1, 1) := by kernel_rfl

theorem cloneBytes_nil (n cap : Nat) (w : World) : Calls Trym.prog 13 #[.slice none n cap] w fun e w' => e = .returned (.slice none 0 0) ∧ w = w' := by
  have he := fun w => Lib.run_eql_slice_nil (P := Trym.prog) w 22 5 none n cap 0 0 Trym.underlying22
  go_enter Trym.func13, Trym.ntmps13
  go_wp2
  go_ret
  exact ⟨rfl, rfl⟩

/-- 'make([]T, l, c)', l and c variables: the world written out. -/
theorem wpList_make_at {P : Program} (w : World) {ops : Array Oper} {rest : List Oper} {o : Oper} {a : Act} {Q : Exit → Act → World → Prop}
    (hg : o.guard = none) (l c : Operand) (t : TypeId) (hop : o.op = Op.makeSlice t l c)
    (e : TypeId) (i : TypeInfo) (z : Value) (size bytes : Nat) (h1 : P.underlying t = some (.slice e)) (h2 : P.info? e = some i) (h3 : i.zero = some z) (h4 : i.size = size) (h5 : i.bytes = bytes)
    (kl kc : IntKind) (L C : Int) (n m : Nat) (hl : a.eval l = .int kl L) (hc : a.eval c = .int kc C) (hL : L = (n : Int)) (hC : C = (m : Int)) (b1 : n ≤ m) (b2 : bytes * m ≤ 281474976710656) (b3 : m ≤ maxLen)
    (hK : wpList P ops Q rest (a.put o.dst (.slice (some ⟨w.heap.size, 0, none⟩) n m)) (w.alloc (.cells (madeCells z.cells (m * size)) e))) :
    wpList P ops Q (o :: rest) a w := by
  refine wpList_plain hg fun K hK' => ?_
  subst hL
  subst hC
  subst h4
  subst h5
  have h63' : (m : Int) ≤ 9223372036854775807 := by
    have h := b3
    simp [maxLen] at h
    omega
  have hb' : (i.bytes : Int) * (m : Int) ≤ 281474976710656 := by
    have h : ((i.bytes * m : Nat) : Int) ≤ 281474976710656 := by omega
    rwa [Int.natCast_mul] at h
  have hr := run_make (P := P) w t e i z h1 h2 h3 kl kc n m (by omega) (by omega) hb' h63'
  simp only [Int.toNat_natCast] at hr
  unfold Oper.wp
  simp [execOp, hop, hl, hc, hr, Result.andThen]
  exact hK' _ _ hK

/-- Block b of the world holds just these cells of elements of type e, none of them frozen. -/
def Blk (w : World) (b : Nat) (e : TypeId) (cs : List Value) : Prop := w.heap[b]? = some (.cells cs.toArray e (0, 0))

theorem Blk.lt {w : World} {b : Nat} {e : TypeId} {cs : List Value} (h : Blk w b e cs) : b < w.heap.size := (Array.getElem?_eq_some_iff.1 h).1
theorem Blk.cell {w : World} {b : Nat} {e : TypeId} {cs : List Value} (h : Blk w b e cs) (j : Nat) : w.cell? ⟨b, j, none⟩ = cs[j]? := by
  rw [cell_of_row w b j cs.toArray e (0, 0) h]; simp
theorem Blk.frozen {w : World} {b : Nat} {e : TypeId} {cs : List Value} (h : Blk w b e cs) (j : Nat) : w.frozen? ⟨b, j, none⟩ = false := frozen_of_row w b j cs.toArray e h
theorem Blk.set {w : World} {b : Nat} {e : TypeId} {cs : List Value} (h : Blk w b e cs) (j : Nat) (u : Value) : Blk (w.setCell ⟨b, j, none⟩ u) b e (cs.set j u) := by
  unfold Blk
  rw [heap_setCell_same w b j cs.toArray e u h]
  simp
theorem Blk.of_below {B : Nat} {w w' : World} {b : Nat} {e : TypeId} {cs : List Value} (h : Blk w b e cs) (hb : Below B w w') (hB : b < B) : Blk w' b e cs := by
  unfold Blk
  rw [hb.block b hB]
  exact h
theorem Blk.alloc (w : World) (e : TypeId) (cs : List Value) : Blk (w.alloc (.cells cs.toArray e)) w.heap.size e cs := heap_alloc_new w _

/-- The numbers as cells. -/
def u8s (zs : List Int) : List Value := zs.map (Value.int .u8)
theorem u8s_len (zs : List Int) : (u8s zs).length = zs.length := by simp [u8s]
theorem u8s_get (zs : List Int) (j : Nat) (h : j < zs.length) : (u8s zs)[j]? = some (.int .u8 (nth zs j)) := by
  simp [u8s, h, nth_get h]

theorem Blk.row {w : World} {b : Nat} {zs : List Int} {tl : List Value} (h : Blk w b 5 (u8s zs ++ tl)) : Row .u8 w (some ⟨b, 0, none⟩) zs := by
  intro j hj
  refine ⟨b, 0, rfl, h.lt, ?_⟩
  rw [Nat.zero_add, h.cell, List.getElem?_append_left (by rw [u8s_len]; exact hj), u8s_get _ _ hj]

theorem u8s_set (zs : List Int) (n k : Nat) (hz : zs.length = n) (hk : k < n) :
    (u8s (zs.take k) ++ List.replicate (n - k) (Value.int .u8 0)).set k (.int .u8 (nth zs k)) = u8s (zs.take (k + 1)) ++ List.replicate (n - (k + 1)) (.int .u8 0) := by
  rw [take_snoc zs k (by omega)]
  have h1 : (u8s (zs.take k)).length = k := by simp [u8s]; omega
  have h2 : List.replicate (n - k) (Value.int .u8 0) = .int .u8 0 :: List.replicate (n - (k + 1)) (.int .u8 0) := by
    rw [show n - k = (n - (k + 1)) + 1 by omega, List.replicate_succ]
  rw [List.set_append_right _ _ (by omega), h1, h2]
  simp [u8s]

theorem made_u8 (n : Nat) : madeCells #[Value.int .u8 0] n = (List.replicate n (Value.int .u8 0)).toArray := by
  apply Array.toList_inj.1
  exact toList_madeCells_one _ _

set_option maxHeartbeats 400000 in
theorem cloneBytes_some (a : Addr) (n cap : Nat) (zs : List Int) (w : World) (hz : zs.length = n) (hn : n ≤ 1048576) (hrow : Row .u8 w (some a) zs) :
    Calls Trym.prog 13 #[.slice (some a) n cap] w fun e w' => e = .returned (.slice (some ⟨w.heap.size, 0, none⟩) n n) ∧
      Blk w' w.heap.size 5 (u8s zs) ∧ Below w.heap.size w w' ∧ w'.heap.size = w.heap.size + 1 := by
  have he := fun w => Lib.run_eql_slice_nil (P := Trym.prog) w 22 5 (some a) n cap 0 0 Trym.underlying22
  obtain ⟨i0, hi, hz0, hz1, hz2⟩ := info_parts Trym.info5
  have HZ : Hid (zs.length = n) := hz
  clear hz
  go_enter Trym.func13, Trym.ntmps13
  go_wp2_with (at_make; refine wpList_make_at _ rfl _ _ 22 rfl 5 i0 (.int .u8 0) 1 1 Trym.underlying22 hi hz0 hz1 hz2 _ _ _ _ n n rfl rfl rfl rfl (Nat.le_refl _) (by omega) (by unfold maxLen; omega) ?_)
  go_loopw [4] (fun i wr => ∃ k : Nat, k ≤ n ∧ i = .int .i64 k ∧ Blk wr w.heap.size 5 (u8s (zs.take k) ++ List.replicate (n - k) (Value.int .u8 0)) ∧ Below w.heap.size w wr ∧ wr.heap.size = w.heap.size + 1) (fun i _ => n - (intOf i).toNat)
  case atStart =>
    refine ⟨0, Nat.zero_le _, rfl, ?_, (Below.refl _ _).alloc (Nat.le_refl _) _, by simp⟩
    have := Blk.alloc w 5 (List.replicate n (Value.int .u8 0))
    rw [made_u8 n]
    simpa [u8s] using this
  case round =>
    obtain ⟨k, hk, rfl, hblk, hbel, hsz⟩ := hrel
    by_cases hlt : k < n
    · obtain ⟨b, off, ha, hlb, hc⟩ := (hrow.below hbel) k (by rw [HZ.out]; exact hlt)
      cases ha
      have hw : wr.cell? ⟨w.heap.size, k, none⟩ = some (.int .u8 0) := by
        have := HZ.out
        rw [hblk.cell k, List.getElem?_append_right (by rw [u8s_len]; simp; omega), List.getElem?_replicate, if_pos]
        rw [u8s_len, List.length_take]
        omega
      have hf := hblk.frozen k
      have R1 : Hid (Blk (wr.setCell ⟨w.heap.size, k, none⟩ (.int .u8 (nth zs k))) w.heap.size 5 (u8s (zs.take (k + 1)) ++ List.replicate (n - (k + 1)) (Value.int .u8 0))) := by
        rw [← u8s_set zs n k HZ.out hlt]
        exact hblk.set k _
      have R2 : Hid (Below w.heap.size w (wr.setCell ⟨w.heap.size, k, none⟩ (.int .u8 (nth zs k)))) := hbel.setCell (Nat.le_refl _) _
      have R3 : Hid (wr.heap.size = w.heap.size + 1) := hsz
      clear hsz hbel hblk
      go_wp2
      go_roundw
      case rel => exact ⟨k + 1, by omega, by go_num, R1.out, R2.out, by simpa using R3.out⟩
      case measure => simp [intOf]; omega
    · have : zs.take k = zs := List.take_of_length_le (by rw [HZ.out]; omega)
      have h0 : n - k = 0 := by omega
      rw [this, h0] at hblk
      go_wp2
      go_ret
      exact ⟨rfl, by simpa using hblk, hbel, hsz⟩

end Go.Proofs.Qxb6600466aMods

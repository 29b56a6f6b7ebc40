import Derived.Test.Qxb6003016aModsBase
namespace Go.Proofs.Qxb6003016aMods
open Go.RowKit
set_option linter.unusedVariables false
set_option linter.unusedSimpArgs false

theorem Trym.info24 : (Trym.prog.info? 24).map (fun i => (i.zero, i.size, i.bytes)) = some (some (.int .u32 0), 1, 4) := by kernel_rfl
theorem Trym.info29 : (Trym.prog.info? 29).map (fun i => (i.zero, i.size, i.bytes)) = some (some (.int .u16 0), 1, 2) := by kernel_rfl

theorem set_snoc {xs zs : List Int} {k : Nat} (h : ∀ j, j < k → nth xs j = nth zs j) (hk : k < xs.length) : ∀ j, j < k + 1 → nth (xs.set k (nth zs k)) j = nth zs j := by
  intro j hj
  by_cases e : j = k
  · subst e
    rw [nth_set_same hk]
  · rw [nth_set_ne e]
    exact h j (by omega)

theorem clone_5_nil (n cap : Nat) (w : World) : Calls Trym.prog 5 #[.slice none n cap] w fun e w' => e = .returned (.slice none 0 0) ∧ w = w' := by
  have he := fun w => Lib.run_eql_slice_nil (P := Trym.prog) w 22 24 none n cap 0 0 Trym.underlying22
  go_enter Trym.func5, Trym.ntmps5
  go_wp2
  go_ret
  exact ⟨rfl, rfl⟩

set_option maxHeartbeats 400000 in
theorem clone_5_some (a : Addr) (n cap : Nat) (zs : List Int) (w : World) (hz : zs.length = n) (hn : n ≤ 1048576) (hrow : Row .u32 w (some a) zs) :
    Calls Trym.prog 5 #[.slice (some a) n cap] w fun e w' => e = .returned (.slice (some ⟨w.heap.size, 0, none⟩) n n) ∧
      Blk w' w.heap.size 24 (ints .u32 zs) ∧ Below w.heap.size w w' ∧ w'.heap.size = w.heap.size + 1 := by
  have he := fun w => Lib.run_eql_slice_nil (P := Trym.prog) w 22 24 (some a) n cap 0 0 Trym.underlying22
  obtain ⟨i0, hi, hz0, hz1, hz2⟩ := info_parts Trym.info24
  have HZ : Hid (zs.length = n) := hz
  clear hz
  go_enter Trym.func5, Trym.ntmps5
  go_wp2_with (at_make; refine wpList_make_blk _ rfl _ _ 22 rfl 24 i0 (.int .u32 0) 4 Trym.underlying22 hi hz0 hz1 hz2 rfl _ _ _ _ n n rfl rfl rfl rfl (Nat.le_refl _) (by omega) (by unfold maxLen; omega) ?_)
  intro w0 hb0 hbel0 hs0
  have HS0 : Hid (w0.heap.size = w.heap.size + 1) := hs0
  have HB0 : ∃ xs : List Int, xs.length = n ∧ Blk w0 w.heap.size 24 (ints .u32 xs) ∧ ∀ j, j < 0 → nth xs j = nth zs j := ⟨List.replicate n 0, by simp, by simpa [ints] using hb0, fun j hj => absurd hj (Nat.not_lt_zero _)⟩
  clear hs0 hb0
  go_wp2
  go_loopw [4] (fun i wr => ∃ k : Nat, k ≤ n ∧ i = .int .i64 k ∧ (∃ xs : List Int, xs.length = n ∧ Blk wr w.heap.size 24 (ints .u32 xs) ∧ ∀ j, j < k → nth xs j = nth zs j) ∧ Below w.heap.size w wr ∧ Hid (wr.heap.size = w.heap.size + 1)) (fun i _ => n - (intOf i).toNat)
  case atStart => exact ⟨0, Nat.zero_le _, rfl, HB0, hbel0, HS0⟩
  case round =>
    clear HB0 HS0 hbel0
    obtain ⟨k, hk, rfl, ⟨xs, hxl, hblk, hxs⟩, hbel, HS⟩ := hrel
    have HXL : Hid (xs.length = n) := hxl
    have HXS : Hid (∀ j, j < k → nth xs j = nth zs j) := hxs
    clear hxl hxs
    by_cases hlt : k < n
    · obtain ⟨b, off, ha, hlb, hc⟩ := (hrow.below hbel) k (by rw [HZ.out]; exact hlt)
      cases ha
      have hw : wr.cell? ⟨w.heap.size, k, none⟩ = some (.int .u32 (nth xs k)) := by
        rw [hblk.cell, ints_get _ _ _ (by rw [HXL.out]; exact hlt)]
      have hf := hblk.frozen k
      have R1 : Hid (Blk (wr.setCell ⟨w.heap.size, k, none⟩ (.int .u32 (nth zs k))) w.heap.size 24 (ints .u32 (xs.set k (nth zs k)))) := by
        unfold Hid
        rw [← ints_set]
        exact hblk.set k _
      have R2 : Hid (Below w.heap.size w (wr.setCell ⟨w.heap.size, k, none⟩ (.int .u32 (nth zs k)))) := hbel.setCell (Nat.le_refl _) _
      clear hbel hblk
      go_wp2
      go_roundw
      case rel => exact ⟨k + 1, by omega, by go_num, ⟨xs.set k (nth zs k), by simpa using HXL.out, R1.out, set_snoc HXS.out (by rw [HXL.out]; exact hlt)⟩, R2.out, by unfold Hid; simpa using HS.out⟩
      case measure => simp [intOf]; omega
    · obtain rfl : n = k := by omega
      have e : xs = zs := by
        apply List.ext_getElem (by rw [HXL.out, HZ.out])
        intro i h1 h2
        rw [← nth_get h1, ← nth_get h2]
        exact HXS.out i (by rw [HXL.out] at h1; exact h1)
      subst e
      go_wp2
      go_ret
      exact ⟨rfl, hblk, hbel, HS.out⟩

/-- A clone, nil or not. -/
theorem clone_5 (ad : Option Addr) (n cap : Nat) (zs : List Int) (w : World) (hz : zs.length = n) (hn : n ≤ 1048576) (hrow : Row .u32 w ad zs) (hnil : ad = none → n = 0) :
    Calls Trym.prog 5 #[.slice ad n cap] w fun e w' => ∃ a', e = .returned (.slice a' n n) ∧ Row .u32 w' a' zs ∧ Below w.heap.size w w' ∧ (ad = none ↔ a' = none) ∧ (∀ a, a' = some a → a.off = 0 ∧ a.spot = none) := by
  cases ad with
  | none =>
    have h0 := hnil rfl
    subst h0
    refine (clone_5_nil 0 cap w).mono ?_
    rintro e w' ⟨rfl, rfl⟩
    exact ⟨none, rfl, fun j hj => by omega, Below.refl _ _, by simp, fun a e => by cases e⟩
  | some a =>
    refine (clone_5_some a n cap zs w hz hn hrow).mono ?_
    rintro e w' ⟨rfl, hb, hbel, hs⟩
    exact ⟨_, rfl, hb.row, hbel, by simp, fun a e => by cases e; exact ⟨rfl, rfl⟩⟩

theorem clone_6_nil (n cap : Nat) (w : World) : Calls Trym.prog 6 #[.slice none n cap] w fun e w' => e = .returned (.slice none 0 0) ∧ w = w' := by
  have he := fun w => Lib.run_eql_slice_nil (P := Trym.prog) w 23 29 none n cap 0 0 Trym.underlying23
  go_enter Trym.func6, Trym.ntmps6
  go_wp2
  go_ret
  exact ⟨rfl, rfl⟩

set_option maxHeartbeats 400000 in
theorem clone_6_some (a : Addr) (n cap : Nat) (zs : List Int) (w : World) (hz : zs.length = n) (hn : n ≤ 1048576) (hrow : Row .u16 w (some a) zs) :
    Calls Trym.prog 6 #[.slice (some a) n cap] w fun e w' => e = .returned (.slice (some ⟨w.heap.size, 0, none⟩) n n) ∧
      Blk w' w.heap.size 29 (ints .u16 zs) ∧ Below w.heap.size w w' ∧ w'.heap.size = w.heap.size + 1 := by
  have he := fun w => Lib.run_eql_slice_nil (P := Trym.prog) w 23 29 (some a) n cap 0 0 Trym.underlying23
  obtain ⟨i0, hi, hz0, hz1, hz2⟩ := info_parts Trym.info29
  have HZ : Hid (zs.length = n) := hz
  clear hz
  go_enter Trym.func6, Trym.ntmps6
  go_wp2_with (at_make; refine wpList_make_blk _ rfl _ _ 23 rfl 29 i0 (.int .u16 0) 2 Trym.underlying23 hi hz0 hz1 hz2 rfl _ _ _ _ n n rfl rfl rfl rfl (Nat.le_refl _) (by omega) (by unfold maxLen; omega) ?_)
  intro w0 hb0 hbel0 hs0
  have HS0 : Hid (w0.heap.size = w.heap.size + 1) := hs0
  have HB0 : ∃ xs : List Int, xs.length = n ∧ Blk w0 w.heap.size 29 (ints .u16 xs) ∧ ∀ j, j < 0 → nth xs j = nth zs j := ⟨List.replicate n 0, by simp, by simpa [ints] using hb0, fun j hj => absurd hj (Nat.not_lt_zero _)⟩
  clear hs0 hb0
  go_wp2
  go_loopw [4] (fun i wr => ∃ k : Nat, k ≤ n ∧ i = .int .i64 k ∧ (∃ xs : List Int, xs.length = n ∧ Blk wr w.heap.size 29 (ints .u16 xs) ∧ ∀ j, j < k → nth xs j = nth zs j) ∧ Below w.heap.size w wr ∧ Hid (wr.heap.size = w.heap.size + 1)) (fun i _ => n - (intOf i).toNat)
  case atStart => exact ⟨0, Nat.zero_le _, rfl, HB0, hbel0, HS0⟩
  case round =>
    clear HB0 HS0 hbel0
    obtain ⟨k, hk, rfl, ⟨xs, hxl, hblk, hxs⟩, hbel, HS⟩ := hrel
    have HXL : Hid (xs.length = n) := hxl
    have HXS : Hid (∀ j, j < k → nth xs j = nth zs j) := hxs
    clear hxl hxs
    by_cases hlt : k < n
    · obtain ⟨b, off, ha, hlb, hc⟩ := (hrow.below hbel) k (by rw [HZ.out]; exact hlt)
      cases ha
      have hw : wr.cell? ⟨w.heap.size, k, none⟩ = some (.int .u16 (nth xs k)) := by
        rw [hblk.cell, ints_get _ _ _ (by rw [HXL.out]; exact hlt)]
      have hf := hblk.frozen k
      have R1 : Hid (Blk (wr.setCell ⟨w.heap.size, k, none⟩ (.int .u16 (nth zs k))) w.heap.size 29 (ints .u16 (xs.set k (nth zs k)))) := by
        unfold Hid
        rw [← ints_set]
        exact hblk.set k _
      have R2 : Hid (Below w.heap.size w (wr.setCell ⟨w.heap.size, k, none⟩ (.int .u16 (nth zs k)))) := hbel.setCell (Nat.le_refl _) _
      clear hbel hblk
      go_wp2
      go_roundw
      case rel => exact ⟨k + 1, by omega, by go_num, ⟨xs.set k (nth zs k), by simpa using HXL.out, R1.out, set_snoc HXS.out (by rw [HXL.out]; exact hlt)⟩, R2.out, by unfold Hid; simpa using HS.out⟩
      case measure => simp [intOf]; omega
    · obtain rfl : n = k := by omega
      have e : xs = zs := by
        apply List.ext_getElem (by rw [HXL.out, HZ.out])
        intro i h1 h2
        rw [← nth_get h1, ← nth_get h2]
        exact HXS.out i (by rw [HXL.out] at h1; exact h1)
      subst e
      go_wp2
      go_ret
      exact ⟨rfl, hblk, hbel, HS.out⟩

/-- A clone, nil or not. -/
theorem clone_6 (ad : Option Addr) (n cap : Nat) (zs : List Int) (w : World) (hz : zs.length = n) (hn : n ≤ 1048576) (hrow : Row .u16 w ad zs) (hnil : ad = none → n = 0) :
    Calls Trym.prog 6 #[.slice ad n cap] w fun e w' => ∃ a', e = .returned (.slice a' n n) ∧ Row .u16 w' a' zs ∧ Below w.heap.size w w' ∧ (ad = none ↔ a' = none) ∧ (∀ a, a' = some a → a.off = 0 ∧ a.spot = none) := by
  cases ad with
  | none =>
    have h0 := hnil rfl
    subst h0
    refine (clone_6_nil 0 cap w).mono ?_
    rintro e w' ⟨rfl, rfl⟩
    exact ⟨none, rfl, fun j hj => by omega, Below.refl _ _, by simp, fun a e => by cases e⟩
  | some a =>
    refine (clone_6_some a n cap zs w hz hn hrow).mono ?_
    rintro e w' ⟨rfl, hb, hbel, hs⟩
    exact ⟨_, rfl, hb.row, hbel, by simp, fun a e => by cases e; exact ⟨rfl, rfl⟩⟩

end Go.Proofs.Qxb6003016aMods

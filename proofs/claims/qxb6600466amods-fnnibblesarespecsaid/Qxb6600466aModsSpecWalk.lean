import Derived.Test.Qxb6600466aModsSpec
import Derived.Test.Qxb6600466aModsHexLaw
namespace Go.Proofs.Qxb6600466aMods
open Go.RowKit
set_option linter.unusedVariables false
set_option linter.unusedSimpArgs false

theorem spec_big (ad : Option Addr) (n cap : Nat) (leaf : Bool) (w : World) (hn : ¬ n ≤ 1048576) :
    Calls Trym.prog 3 #[.slice ad n cap, .bool leaf] w fun e w' => e = .returned (.bool true) ∧ Below w.heap.size w w' := by
  go_enter Trym.func3, Trym.ntmps3
  go_wp2_with (go_at_call 11; refine (zz11_no _ _ _ _ _ hn).mono ?_; rintro e w' ⟨rfl, rfl⟩)
  go_ret
  exact ⟨rfl, Below.refl _ _⟩

theorem spec_not (ad : Option Addr) (n cap : Nat) (zs : List Int) (leaf : Bool) (w : World) (hz : zs.length = n) (hn : n ≤ 1048576) (hrow : Row .u8 w ad zs) (hall : allB zs = false) :
    Calls Trym.prog 3 #[.slice ad n cap, .bool leaf] w fun e w' => e = .returned (.bool true) ∧ Below w.heap.size w w' := by
  have h1 : ¬ (1048576 : Int) < (n : Int) := by omega
  have HZ : Hid (zs.length = n) := hz
  clear hz
  go_enter Trym.func3, Trym.ntmps3
  go_wp2_with (first | (go_at_call 11; refine (zz11_yes _ _ _ _ _ hn).mono ?_; rintro e w' ⟨rfl, rfl⟩) | (go_at_call 12; refine (allNibbles_any _ _ _ zs _ HZ.out (by unfold maxLen; omega) hrow).mono ?_; rintro e w' ⟨rfl, rfl⟩))
  go_ret
  exact ⟨rfl, Below.refl _ _⟩

theorem set_next (xs : List Int) (r k : Nat) (x : Int) (hk : xs.length = k) (hr : 0 < r) : (u8s xs ++ List.replicate r (Value.int .u8 0)).set k (.int .u8 x) = u8s (xs ++ [x]) ++ List.replicate (r - 1) (.int .u8 0) := by
  obtain ⟨q, rfl⟩ : ∃ q, r = q + 1 := ⟨r - 1, by omega⟩
  have hl : (u8s xs).length = k := by simp [u8s, hk]
  rw [List.set_append_right _ _ (by omega), hl, List.replicate_succ, Nat.sub_self]
  simp [u8s]

theorem below_step {w0 w w' : World} {o : Obj} {G : Nat} (h : Below G w0 w) (hG : G ≤ w.heap.size) (hg : (w.alloc o).grownBy w' (some G)) : Below G w0 w' :=
  (h.alloc hG o).grown hg (by simp; omega) (fun k e => by cases e; exact Nat.le_refl _)

/-- What the loop that gathers the wanted nibbles keeps. -/
structure Want (G n h : Nat) (hd zs : List Int) (w2 wr : World) (k : Nat) : Prop where
  blk : Blk wr G 5 (u8s (hd ++ zs.take k) ++ List.replicate (n + 2 - h - k) (Value.int .u8 0))
  bel : Below G w2 wr

theorem Want.next {G n h : Nat} {hd zs : List Int} {w2 wr w' : World} {k : Nat} {o : Obj} (H : Want G n h hd zs w2 wr k) (hh : hd.length = h) (h2 : h ≤ 2) (hz : zs.length = n) (hk : k < n)
    (hb : Blk w' G 5 ((u8s (hd ++ zs.take k) ++ List.replicate (n + 2 - h - k) (Value.int .u8 0)).set (h + k) (.int .u8 (nth zs k)))) (hg : (wr.alloc o).grownBy w' (some G)) : Want G n h hd zs w2 w' (k + 1) := by
  refine ⟨?_, below_step H.bel (Nat.le_of_lt H.blk.lt) hg⟩
  rw [set_next (hd ++ zs.take k) _ (h + k) _ (by simp [hh]; omega) (by omega)] at hb
  rw [take_snoc zs k (by omega), ← List.append_assoc, show n + 2 - h - (k + 1) = n + 2 - h - k - 1 by omega]
  exact hb

theorem want_start2 {G n : Nat} {f : Int} {zs : List Int} {w2 w5 : World} (hb : Blk w5 G 5 (((List.replicate (n + 2) (Value.int .u8 0)).set 0 (.int .u8 f)).set 1 (.int .u8 0))) (hbel : Below G w2 w5) : Want G n 2 [f, 0] zs w2 w5 0 := by
  refine ⟨?_, hbel⟩
  have e : ((List.replicate (n + 2) (Value.int .u8 0)).set 0 (.int .u8 f)).set 1 (.int .u8 0) = u8s ([f, 0] ++ zs.take 0) ++ List.replicate (n + 2 - 2 - 0) (Value.int .u8 0) := by
    simp [List.replicate_succ, u8s]
  rw [← e]
  exact hb

/-- The cells that the comparing loop reads. -/
theorem Blk.at {w : World} {b : Nat} {zs : List Int} {tl : List Value} (h : Blk w b 5 (u8s zs ++ tl)) (j : Nat) (hj : j < zs.length) : w.cell? ⟨b, j, none⟩ = some (.int .u8 (nth zs j)) := by
  rw [h.cell, List.getElem?_append_left (by rw [u8s_len]; exact hj), u8s_get _ _ hj]

set_option maxRecDepth 100000 in
set_option maxHeartbeats 1600000 in
theorem spec_even (ad : Option Addr) (n cap : Nat) (zs : List Int) (leaf : Bool) (w : World) (hz : zs.length = n) (hn : n ≤ 1048576) (hrow : Row .u8 w ad zs) (hbyt : Byt zs) (hnil : ad = none → n = 0) (hall : allB zs = true) (hpar : (n : Int) % 2 = 0) :
    Calls Trym.prog 3 #[.slice ad n cap, .bool leaf] w fun e w' => e = .returned (.bool true) ∧ Below w.heap.size w w' := by
  have hnib : Nib zs := nib_of hbyt hall
  have h1 : decide ((1048576 : Int) < (n : Int)) = false := decide_eq_false (by omega)
  have HZ : Hid (zs.length = n) := hz
  clear hz
  obtain ⟨i0, hi, hz0, hz1, hz2⟩ := info_parts Trym.info5
  obtain ⟨L, HL⟩ : ∃ L, Hid (L = leaf) := ⟨leaf, rfl⟩
  cases leaf
  all_goals
    go_enter Trym.func3, Trym.ntmps3
    go_wp2_with (first | (go_at_call 11; refine (zz11_yes _ _ _ _ _ hn).mono ?_; rintro e w' ⟨rfl, rfl⟩) | (go_at_call 12; refine (allNibbles_any _ _ _ zs _ HZ.out (by unfold maxLen; omega) hrow).mono ?_; rintro e w' ⟨rfl, rfl⟩))
    refine (cloneBytes_any ad n cap zs w HZ.out hn hrow hnil).mono ?_
    rintro e w1 ⟨ad1, rfl, hrow1, hbel1, hat1⟩
    go_wp2_with fail
    refine (ZZHexPrefix_any ad1 n zs _ w1 HZ.out hn hrow1 hnib (fun b off e => (hat1 b off e).2)).mono ?_
    rintro e w2 ⟨rfl, hblk2, hbel2⟩
    go_wp2_with (at_make; refine wpList_make_blk _ rfl _ _ 22 rfl 5 i0 (.int .u8 0) 1 Trym.underlying22 hi hz0 hz1 hz2 rfl _ _ _ _ 0 (n + 2) rfl rfl rfl (by omega) (by omega) (by omega) (by unfold maxLen; omega) ?_)
    intro w3 hb3 hbel3 hs3
    have HS3 : Hid (w3.heap.size = w2.heap.size + 1) := hs3
    clear hs3
    go_wp2_with (at_builtin; refine wpList_append_blk rfl (.tmp 39) (.tmp 41) 22 rfl 5 i0 Trym.underlying22 hi hz1 w2.heap.size 0 (n + 2) _ rfl w3.heap.size _ rfl (heap_alloc_new w3 _) rfl (hb3.later _) (by omega) (by simp) ?_)
    intro w4 hb4 hg4
    have hbel4 := below_step hbel3 (Nat.le_of_lt hb3.lt) hg4
    clear hg4
    go_wp2_with (at_builtin; refine wpList_append_blk rfl (.tmp 46) (.tmp 47) 22 rfl 5 i0 Trym.underlying22 hi hz1 w2.heap.size 1 (n + 2) _ rfl w4.heap.size _ rfl (heap_alloc_new w4 _) rfl (hb4.later _) (by omega) (by simp) ?_)
    intro w5 hb5 hg5
    have hbel5 := below_step hbel4 (Nat.le_of_lt hb4.lt) hg5
    clear hg5 hb4 hb3 hbel4
    obtain ⟨hd, Hhd, Hlen, HW⟩ : ∃ hd, Hid (hd ++ zs = wantL zs L) ∧ Hid (hd.length = 2) ∧ Want w2.heap.size n 2 hd zs w2 w5 0 := by
      refine ⟨[_, 0], ?_, ?_, want_start2 hb5 hbel5⟩
      · unfold Hid wantL
        rw [HL.out, HZ.out, if_pos (by omega)]
        rfl
      · unfold Hid
        rfl
    have HB : Hid (Blk w2 w1.heap.size 5 (u8s (hexP zs L))) := by unfold Hid; rw [HL.out]; exact hblk2
    clear hb5 hbel5 hblk2 HL hbel3
    go_wp2
    go_loopw [8, 9] (fun v i wr => ∃ k : Nat, k ≤ n ∧ i = .int .i64 k ∧ v = .slice (some ⟨w2.heap.size, 0, none⟩) (2 + k) (n + 2) ∧ Want w2.heap.size n 2 hd zs w2 wr k) (fun _ i _ => n - (intOf i).toNat)
    case atStart => exact ⟨0, Nat.zero_le _, rfl, rfl, HW⟩
    case round =>
      clear HW
      obtain ⟨k, hk, rfl, rfl, H⟩ := hrel
      by_cases hlt : k < n
      · obtain ⟨b, off, rfl, hlb, hc⟩ := ((hrow1.below hbel2).below H.bel) k (by rw [HZ.out]; exact hlt)
        go_wp2_with (at_builtin; refine wpList_append_blk rfl (.tmp 54) (.tmp 59) 22 rfl 5 i0 Trym.underlying22 hi hz1 w2.heap.size (2 + k) (n + 2) _ rfl wr.heap.size _ rfl (heap_alloc_new wr _) rfl (H.blk.later _) (by omega) (by have := HZ.out; have := Hlen.out; simp [u8s]; omega) ?_)
        intro w6 hb6 hg6
        have H' := H.next Hlen.out (by omega) HZ.out hlt hb6 hg6
        clear hb6 hg6 H hc
        go_wp2
        go_roundw
        case rel => exact ⟨k + 1, by omega, by go_num, rfl, H'⟩
        case measure => simp [intOf]; omega
      · have hkn : k = n := by omega
        subst hkn
        have HX : Hid (Blk wr w2.heap.size 5 (u8s (wantL zs L) ++ [])) := by
          have := H.blk
          rw [List.take_of_length_le (by rw [HZ.out]; omega), Hhd.out, show k + 2 - 2 - k = 0 by omega] at this
          exact this
        have HY : Hid (Blk wr w1.heap.size 5 (u8s (hexP zs L) ++ [])) := by
          have := HB.out.of_below H.bel HB.out.lt
          simpa [Hid] using this
        have HN : Hid (∀ j, j < (wantL zs L).length → nibAt (hexP zs L) j = nth (wantL zs L) j) := fun j hj => want_nib hnib L j hj
        have HO := hexP_byt hnib L
        have HWL : Hid ((wantL zs L).length = 2 + k) := by unfold Hid; rw [want_len, HZ.out]; omega
        have HXL : Hid ((hexP zs L).length = 1 + k / 2) := by unfold Hid; rw [hexP_len, HZ.out]
        have R : Hid (Below w.heap.size w wr) := (hbel1.trans (hbel2.mono hbel1.size)).trans (H.bel.mono (Nat.le_trans hbel1.size hbel2.size))
        generalize hexP zs L = out at *
        generalize wantL zs L = want at *
        clear H hbel1 hbel2 hrow1 hrow hat1 HB Hhd hlt
        have hq : (2 * (1 + (k : Int) / 2) != 2 + (k : Int)) = false := by rw [bne_eq_false_iff_eq]; omega
        go_wp2
        go_loop [10] (fun i => ∃ j : Nat, j ≤ 2 + k ∧ i = .int .i64 j) (fun i => 2 + k - (intOf i).toNat)
        case atStart => exact ⟨0, Nat.zero_le _, rfl⟩
        case round =>
          obtain ⟨j, hj, rfl⟩ := hrel
          by_cases hjl : j < 2 + k
          · have c1 := HY.out.at (j / 2) (by rw [HXL.out]; omega)
            have c2 := HX.out.at j (by rw [HWL.out]; exact hjl)
            have hby := HO (j / 2)
            have hnb := HN.out j (by rw [HWL.out]; exact hjl)
            by_cases hjp : (j : Int) % 2 = 0
            · rw [nibAt_even (by omega)] at hnb
              have HE : Hid (nth out (j / 2) / 16 = nth want j) := hnb
              have hne : (nth out (j / 2) / 16 != nth want j) = false := by rw [hnb]; simp
              clear hnb
              go_wp2
              go_round
              case rel => exact ⟨j + 1, by omega, by go_num⟩
              case measure => simp [intOf]; omega
            · rw [nibAt_odd (by omega)] at hnb
              have hne : (nth out (j / 2) % 16 != nth want j) = false := by rw [hnb]; simp
              clear hnb
              go_wp2
              go_round
              case rel => exact ⟨j + 1, by omega, by go_num⟩
              case measure => simp [intOf]; omega
          · go_wp2
            go_ret
            exact ⟨rfl, R.out⟩

theorem want_start1 {G n : Nat} {f : Int} {zs : List Int} {w2 w5 : World} (hb : Blk w5 G 5 ((List.replicate (n + 2) (Value.int .u8 0)).set 0 (.int .u8 f))) (hbel : Below G w2 w5) : Want G n 1 [f] zs w2 w5 0 := by
  refine ⟨?_, hbel⟩
  have e : (List.replicate (n + 2) (Value.int .u8 0)).set 0 (.int .u8 f) = u8s ([f] ++ zs.take 0) ++ List.replicate (n + 2 - 1 - 0) (Value.int .u8 0) := by
    simp [List.replicate_succ, u8s]
  rw [← e]
  exact hb

set_option maxRecDepth 100000 in
set_option maxHeartbeats 1600000 in
theorem spec_odd (ad : Option Addr) (n cap : Nat) (zs : List Int) (leaf : Bool) (w : World) (hz : zs.length = n) (hn : n ≤ 1048576) (hrow : Row .u8 w ad zs) (hbyt : Byt zs) (hnil : ad = none → n = 0) (hall : allB zs = true) (hpar : (n : Int) % 2 = 1) :
    Calls Trym.prog 3 #[.slice ad n cap, .bool leaf] w fun e w' => e = .returned (.bool true) ∧ Below w.heap.size w w' := by
  have hnib : Nib zs := nib_of hbyt hall
  have hp0 : ((n : Int) % 2 == 0) = false := by rw [beq_eq_false_iff_ne]; omega
  have hp1 : ((n : Int) % 2 == 1) = true := by rw [beq_iff_eq]; omega
  have HP : Hid ((n : Int) % 2 = 1) := hpar
  clear hpar
  have h1 : decide ((1048576 : Int) < (n : Int)) = false := decide_eq_false (by omega)
  have HZ : Hid (zs.length = n) := hz
  clear hz
  obtain ⟨i0, hi, hz0, hz1, hz2⟩ := info_parts Trym.info5
  obtain ⟨L, HL⟩ : ∃ L, Hid (L = leaf) := ⟨leaf, rfl⟩
  cases leaf
  all_goals
    go_enter Trym.func3, Trym.ntmps3
    go_wp2_with (first | (go_at_call 11; refine (zz11_yes _ _ _ _ _ hn).mono ?_; rintro e w' ⟨rfl, rfl⟩) | (go_at_call 12; refine (allNibbles_any _ _ _ zs _ HZ.out (by unfold maxLen; omega) hrow).mono ?_; rintro e w' ⟨rfl, rfl⟩))
    refine (cloneBytes_any ad n cap zs w HZ.out hn hrow hnil).mono ?_
    rintro e w1 ⟨ad1, rfl, hrow1, hbel1, hat1⟩
    go_wp2_with fail
    refine (ZZHexPrefix_any ad1 n zs _ w1 HZ.out hn hrow1 hnib (fun b off e => (hat1 b off e).2)).mono ?_
    rintro e w2 ⟨rfl, hblk2, hbel2⟩
    go_wp2_with (at_make; refine wpList_make_blk _ rfl _ _ 22 rfl 5 i0 (.int .u8 0) 1 Trym.underlying22 hi hz0 hz1 hz2 rfl _ _ _ _ 0 (n + 2) rfl rfl rfl (by omega) (by omega) (by omega) (by unfold maxLen; omega) ?_)
    intro w3 hb3 hbel3 hs3
    have HS3 : Hid (w3.heap.size = w2.heap.size + 1) := hs3
    clear hs3
    go_wp2_with (at_builtin; refine wpList_append_blk rfl (.tmp 39) (.tmp 41) 22 rfl 5 i0 Trym.underlying22 hi hz1 w2.heap.size 0 (n + 2) _ rfl w3.heap.size _ rfl (heap_alloc_new w3 _) rfl (hb3.later _) (by omega) (by simp) ?_)
    intro w4 hb4 hg4
    have hbel4 := below_step hbel3 (Nat.le_of_lt hb3.lt) hg4
    clear hg4
    clear hb3
    obtain ⟨hd, Hhd, Hlen, HW⟩ : ∃ hd, Hid (hd ++ zs = wantL zs L) ∧ Hid (hd.length = 1) ∧ Want w2.heap.size n 1 hd zs w2 w4 0 := by
      refine ⟨[_], ?_, ?_, want_start1 hb4 hbel4⟩
      · unfold Hid wantL
        rw [HL.out, HZ.out, if_neg (by have := HP.out; omega)]
        rfl
      · unfold Hid
        rfl
    have HB : Hid (Blk w2 w1.heap.size 5 (u8s (hexP zs L))) := by unfold Hid; rw [HL.out]; exact hblk2
    clear hb4 hbel4 hblk2 HL hbel3
    go_wp2
    go_loopw [8, 9] (fun v i wr => ∃ k : Nat, k ≤ n ∧ i = .int .i64 k ∧ v = .slice (some ⟨w2.heap.size, 0, none⟩) (1 + k) (n + 2) ∧ Want w2.heap.size n 1 hd zs w2 wr k) (fun _ i _ => n - (intOf i).toNat)
    case atStart => exact ⟨0, Nat.zero_le _, rfl, rfl, HW⟩
    case round =>
      clear HW
      obtain ⟨k, hk, rfl, rfl, H⟩ := hrel
      by_cases hlt : k < n
      · obtain ⟨b, off, rfl, hlb, hc⟩ := ((hrow1.below hbel2).below H.bel) k (by rw [HZ.out]; exact hlt)
        go_wp2_with (at_builtin; refine wpList_append_blk rfl (.tmp 54) (.tmp 59) 22 rfl 5 i0 Trym.underlying22 hi hz1 w2.heap.size (1 + k) (n + 2) _ rfl wr.heap.size _ rfl (heap_alloc_new wr _) rfl (H.blk.later _) (by omega) (by have := HZ.out; have := Hlen.out; simp [u8s]; omega) ?_)
        intro w6 hb6 hg6
        have H' := H.next Hlen.out (by omega) HZ.out hlt hb6 hg6
        clear hb6 hg6 H hc
        go_wp2
        go_roundw
        case rel => exact ⟨k + 1, by omega, by go_num, rfl, H'⟩
        case measure => simp [intOf]; omega
      · have hkn : k = n := by omega
        subst hkn
        have HX : Hid (Blk wr w2.heap.size 5 (u8s (wantL zs L) ++ [.int .u8 0])) := by
          have := H.blk
          rw [List.take_of_length_le (by rw [HZ.out]; omega), Hhd.out, show k + 2 - 1 - k = 1 by omega] at this
          exact this
        have HY : Hid (Blk wr w1.heap.size 5 (u8s (hexP zs L) ++ [])) := by
          have := HB.out.of_below H.bel HB.out.lt
          simpa [Hid] using this
        have HN : Hid (∀ j, j < (wantL zs L).length → nibAt (hexP zs L) j = nth (wantL zs L) j) := fun j hj => want_nib hnib L j hj
        have HO := hexP_byt hnib L
        have HWL : Hid ((wantL zs L).length = 1 + k) := by unfold Hid; rw [want_len, HZ.out]; have := HP.out; omega
        have HXL : Hid ((hexP zs L).length = 1 + k / 2) := by unfold Hid; rw [hexP_len, HZ.out]
        have R : Hid (Below w.heap.size w wr) := (hbel1.trans (hbel2.mono hbel1.size)).trans (H.bel.mono (Nat.le_trans hbel1.size hbel2.size))
        generalize hexP zs L = out at *
        generalize wantL zs L = want at *
        clear H hbel1 hbel2 hrow1 hrow hat1 HB Hhd hlt
        have hq : (2 * (1 + (k : Int) / 2) != 1 + (k : Int)) = false := by rw [bne_eq_false_iff_eq]; have := HP.out; omega
        go_wp2
        go_loop [10] (fun i => ∃ j : Nat, j ≤ 1 + k ∧ i = .int .i64 j) (fun i => 1 + k - (intOf i).toNat)
        case atStart => exact ⟨0, Nat.zero_le _, rfl⟩
        case round =>
          obtain ⟨j, hj, rfl⟩ := hrel
          by_cases hjl : j < 1 + k
          · have c1 := HY.out.at (j / 2) (by rw [HXL.out]; have := HP.out; omega)
            have c2 := HX.out.at j (by rw [HWL.out]; exact hjl)
            have hby := HO (j / 2)
            have hnb := HN.out j (by rw [HWL.out]; exact hjl)
            by_cases hjp : (j : Int) % 2 = 0
            · rw [nibAt_even (by omega)] at hnb
              have HE : Hid (nth out (j / 2) / 16 = nth want j) := hnb
              have hne : (nth out (j / 2) / 16 != nth want j) = false := by rw [hnb]; simp
              clear hnb
              go_wp2
              go_round
              case rel => exact ⟨j + 1, by omega, by go_num⟩
              case measure => simp [intOf]; omega
            · rw [nibAt_odd (by omega)] at hnb
              have hne : (nth out (j / 2) % 16 != nth want j) = false := by rw [hnb]; simp
              clear hnb
              go_wp2
              go_round
              case rel => exact ⟨j + 1, by omega, by go_num⟩
              case measure => simp [intOf]; omega
          · go_wp2
            go_ret
            exact ⟨rfl, R.out⟩

/-- For every input: true; nothing old has turned. -/
theorem spec_all (ad : Option Addr) (n cap : Nat) (zs : List Int) (leaf : Bool) (w : World) (hz : zs.length = n) (hrow : Row .u8 w ad zs) (hbyt : Byt zs) (hnil : ad = none → n = 0) :
    Calls Trym.prog 3 #[.slice ad n cap, .bool leaf] w fun e w' => e = .returned (.bool true) ∧ Below w.heap.size w w' := by
  by_cases hn : n ≤ 1048576
  · cases hall : allB zs
    · exact spec_not ad n cap zs leaf w hz hn hrow hall
    · by_cases hp : (n : Int) % 2 = 0
      · exact spec_even ad n cap zs leaf w hz hn hrow hbyt hnil hall hp
      · exact spec_odd ad n cap zs leaf w hz hn hrow hbyt hnil hall (by omega)
  · exact spec_big ad n cap leaf w hn

end Go.Proofs.Qxb6600466aMods

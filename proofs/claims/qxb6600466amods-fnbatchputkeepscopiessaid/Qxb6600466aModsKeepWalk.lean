import Derived.Test.Qxb6600466aModsKeepLaw
namespace Go.Proofs.Qxb6600466aMods
open Go.RowKit
set_option linter.unusedVariables false
set_option linter.unusedSimpArgs false
attribute [local go_sem ↓] Go.wp_at_zero Go.wp_at_succ

set_option maxRecDepth 100000 in
set_option maxHeartbeats 6400000 in
theorem keep_lt (ad : Option Addr) (n c : Nat) (kss : List (List Int)) (ad' : Option Addr) (m c' : Nat) (vss : List (List Int)) (w : World) (hz : kss.length = n) (hx : Nest w ad kss) (hnil : ad = none → n = 0) (hz' : vss.length = m) (hy : Nest w ad' vss) (hnil' : ad' = none → m = 0) (hn : n ≤ 65536) (hm : m ≤ 65536) (hmn : m < n) :
    Calls Trym.prog 9 #[.slice ad n c, .slice ad' m c'] w fun e w' => e = .returned (.bool true) ∧ Below w.heap.size w w' := by
  have hd : decide ((65536 : Int) < (n : Int)) = false := decide_eq_false (by omega)
  have hd2 : decide ((65536 : Int) < (m : Int)) = false := decide_eq_false (by omega)
  have hd4 : decide ((m : Int) < (n : Int)) = true := decide_eq_true (by omega)
  have HZ : Hid (kss.length = n) := hz
  have HY : Hid (vss.length = m) := hz'
  clear hz hz'
  obtain ⟨i0, hi, hz0, hz1, hz2⟩ := info_parts Trym.info22
  go_enter Trym.func9, Trym.ntmps9
  go_wp2_with fail
  refine (zz26_any ad n c kss ad' m c' vss w HZ.out hx HY.out hy).mono ?_
  rintro e w' ⟨hg, rfl⟩
  rcases hg with rfl | ⟨rfl, hs1, hs2⟩
  · go_wp2
    go_ret
    exact ⟨rfl, Below.refl _ _⟩
  go_wp2_with fail
  refine (nestedSize_any ad n c kss w HZ.out hn hx).mono ?_
  rintro e w' ⟨t1, rfl, ht1, ht1', rfl⟩
  go_wp2_with fail
  refine (nestedSize_any ad' m c' vss w HY.out hm hy).mono ?_
  rintro e w' ⟨t2, rfl, ht2, ht2', rfl⟩
  by_cases htt : (1048576 : Int) < t1 + t2
  · go_wp2
    go_ret
    exact ⟨rfl, Below.refl _ _⟩
  have hd3 : decide ((1048576 : Int) < t1 + t2) = false := decide_eq_false htt
  go_wp2_with fail
  refine (cloneNested_any ad n c kss w HZ.out hn hx hs1 hnil).mono ?_
  rintro e w1 ⟨ka, rfl, hk1, hb1⟩
  go_wp2_with fail
  refine (cloneNested_any ad' m c' vss w1 HY.out hm (hy.below hb1) hs2 hnil').mono ?_
  rintro e w2 ⟨va, rfl, hv2, hb2⟩
  have hk2 := hk1.kept (Kept.of_below hb2)
  have B2 : Below w.heap.size w w2 := hb1.trans (hb2.mono hb1.size)
  have hw12 := hb2.size
  clear hk1 hb1 hb2
  go_wp2_with (at_make; refine wpList_make_blk _ rfl _ _ 31 rfl 22 i0 (.slice none 0 0) 24 Trym.underlying31 hi hz0 hz1 hz2 rfl _ _ _ _ m m rfl rfl rfl rfl (Nat.le_refl _) (by omega) (by unfold maxLen; omega) ?_)
  intro w3 hb3 hbel3 hs3
  have HS3 : Hid (w3.heap.size = w2.heap.size + 1) := hs3
  clear hs3
  go_wp2_with (at_make; refine wpList_make_blk _ rfl _ _ 31 rfl 22 i0 (.slice none 0 0) 24 Trym.underlying31 hi hz0 hz1 hz2 rfl _ _ _ _ m m rfl rfl rfl rfl (Nat.le_refl _) (by omega) (by unfold maxLen; omega) ?_)
  intro w4 hb4 hbel4 hs4
  have HS4 : Hid (w4.heap.size = w3.heap.size + 1) := hs4
  clear hs4
  have NK0 : NestB w4 w4.heap.size w4.heap.size w2.heap.size (kss.take m) 0 := ⟨_, hb3.of_below hbel4 hb3.lt, by have := HZ.out; simp; omega, fun r hr => absurd hr (Nat.not_lt_zero _)⟩
  have NV0 : NestB w4 w4.heap.size w4.heap.size w3.heap.size (vss.take m) 0 := ⟨_, hb4, by have := HY.out; simp; omega, fun r hr => absurd hr (Nat.not_lt_zero _)⟩
  have B4 : Below w2.heap.size w2 w4 := hbel3.trans (hbel4.mono hbel3.size)
  have hGk : w2.heap.size ≠ w3.heap.size := by have := HS3.out; omega
  have hGk4 : w2.heap.size < w4.heap.size := by have := HS3.out; have := HS4.out; omega
  have hGv4 : w3.heap.size < w4.heap.size := by have := HS4.out; omega
  clear hb3 hb4 hbel3 hbel4
  go_wp2
  go_loopw [8] (fun i wr => ∃ k : Nat, k ≤ m ∧ i = .int .i64 k ∧ NestB wr w4.heap.size wr.heap.size w2.heap.size (kss.take m) k ∧ NestB wr w4.heap.size wr.heap.size w3.heap.size (vss.take m) k ∧ Below w2.heap.size w2 wr ∧ w4.heap.size ≤ wr.heap.size) (fun i _ => m - (intOf i).toNat)
  case atStart => exact ⟨0, Nat.zero_le _, rfl, NK0, NV0, B4, Nat.le_refl _⟩
  case round =>
    clear NK0 NV0 B4
    obtain ⟨k, hk, rfl, NK, NV, BW, hsz⟩ := hrel
    by_cases hlt : k < m
    · have hkw := hk2.kept (Kept.of_below BW)
      obtain ⟨Hk, hsk, ak, rfl, hbk, hck, hrk, hnk⟩ := hkw.atBlk k (by rw [HZ.out]; omega)
      have hlk := hs1 k (by omega)
      have hlv := hs2 k (by omega)
      have elk : lenOf (kss.take m) k = lenOf kss k := lenOf_take hlt
      have elv : lenOf (vss.take m) k = lenOf vss k := lenOf_take hlt
      have erk : rowOf (kss.take m) k = rowOf kss k := rowOf_take hlt
      have erv : rowOf (vss.take m) k = rowOf vss k := rowOf_take hlt
      have ELK : Hid (lenOf (kss.take m) k = lenOf kss k) := elk
      have ELV : Hid (lenOf (vss.take m) k = lenOf vss k) := elv
      have ERK : Hid (rowOf (kss.take m) k = rowOf kss k) := erk
      have ERV : Hid (rowOf (vss.take m) k = rowOf vss k) := erv
      clear elk elv erk erv
      go_wp2_with fail
      refine (cloneBytes_blk ak (lenOf kss k) _ (rowOf kss k) wr rfl hlk hrk hnk).mono ?_
      rintro e w5 ⟨a5, rfl, hb5, hd5⟩
      obtain ⟨⟨u5, hcell5⟩, hfro5, NK5⟩ := NK.next (a' := a5) (by have := HZ.out; simp; omega : (kss.take m).length = m) hlt hsz hb5 (by rw [ERK.out]; exact hd5)
      rw [ELK.out] at NK5
      obtain ⟨hs5, hbk5⟩ := NK.blk
      have NV5 := NV.far (j := k) (u := .slice a5 (lenOf kss k) (lenOf kss k)) hb5 (Ne.symm hGk) (hbk5.of_below hb5 hbk5.lt)
      have BW5 : Below w2.heap.size w2 (w5.setCell ⟨w2.heap.size, k, none⟩ (.slice a5 (lenOf kss k) (lenOf kss k))) := (BW.trans (hb5.mono BW.size)).setCell (Nat.le_refl _) _
      have hsz5 : w4.heap.size ≤ (w5.setCell ⟨w2.heap.size, k, none⟩ (.slice a5 (lenOf kss k) (lenOf kss k))).heap.size := by simpa using Nat.le_trans hsz hb5.size
      have hvw := hv2.kept (Kept.of_below BW5)
      have hvw5 := hv2.kept (Kept.of_below (BW.trans (hb5.mono BW.size)))
      obtain ⟨Hv, hsv, av, rfl, hbv, hcv, hrv, hnv⟩ := hvw.atBlk k (by rw [HY.out]; omega)
      obtain ⟨Hv', av', ev, hcv5, _, _⟩ := hvw5.atRow k (by rw [HY.out]; omega)
      cases ev
      have hHv : Hv ≠ w2.heap.size := by
        rcases hv2 with ⟨e, _⟩ | ⟨G, e, _, hl, _⟩
        · cases e
        · cases e; omega
      have eav : av' = av := by
        have e1 : (w5.setCell ⟨w2.heap.size, k, none⟩ (.slice a5 (lenOf kss k) (lenOf kss k))).cell? ⟨Hv, k, none⟩ = w5.cell? ⟨Hv, k, none⟩ := World.cell?_of_block (w := w5) (Below.heap_setCell _ _ _ _ (by exact hHv))
        rw [e1, hcv5] at hcv
        simpa using hcv
      subst eav
      clear NK NV BW hsz hd5 hb5 hck hbk5 hkw hvw hvw5 hcv
      go_wp2_with fail
      refine (cloneBytes_blk av' (lenOf vss k) _ (rowOf vss k) _ rfl hlv hrv hnv).mono ?_
      rintro e w7 ⟨a7, rfl, hb7, hd7⟩
      obtain ⟨⟨u7, hcell7⟩, hfro7, NV7⟩ := NV5.next (a' := a7) (by have := HY.out; simp; omega : (vss.take m).length = m) hlt hsz5 hb7 (by rw [ERV.out]; exact hd7)
      rw [ELV.out] at NV7
      obtain ⟨hs7, hbk7⟩ := NV5.blk
      have NK7 := NK5.far (j := k) (u := .slice a7 (lenOf vss k) (lenOf vss k)) hb7 hGk (hbk7.of_below hb7 hbk7.lt)
      have BW7 : Below w2.heap.size w2 (w7.setCell ⟨w3.heap.size, k, none⟩ (.slice a7 (lenOf vss k) (lenOf vss k))) := (BW5.trans (hb7.mono BW5.size)).setCell (by show w2.heap.size ≤ w3.heap.size; have := HS3.out; omega) _
      have hsz7 : w4.heap.size ≤ (w7.setCell ⟨w3.heap.size, k, none⟩ (.slice a7 (lenOf vss k) (lenOf vss k))).heap.size := by simpa using Nat.le_trans hsz5 hb7.size
      clear NK5 NV5 BW5 hsz5 hd7 hb7 hbk7 hcell5 hfro5 hcv5
      go_wp2
      go_roundw
      case rel => exact ⟨k + 1, by omega, by go_num, NK7, NV7, BW7, hsz7⟩
      case measure => simp [intOf]; omega
    · obtain rfl : m = k := by omega
      obtain ⟨w5, rfl⟩ : ∃ w5, w5 = wr := ⟨_, rfl⟩
      have B5 : Below w.heap.size w w5 := B2.trans (BW.mono B2.size)
      have hk5 := hk2.kept (Kept.of_below BW)
      have hv5 := hv2.kept (Kept.of_below BW)
      have hsK : ∀ r, r < m → lenOf (kss.take m) r ≤ 1048576 := fun r hr => by rw [lenOf_take hr]; exact hs1 r (by omega)
      have hsV : ∀ r, r < m → lenOf (vss.take m) r ≤ 1048576 := fun r hr => by rw [lenOf_take hr]; exact hs2 r (by omega)
      have rK : ∀ r, r < m → rowOf (kss.take m) r = rowOf kss r := fun r hr => rowOf_take hr
      have rV : ∀ r, r < m → rowOf (vss.take m) r = rowOf vss r := fun r hr => rowOf_take hr
      have HRK : Hid (∀ r, r < m → rowOf (kss.take m) r = rowOf kss r) := rK
      have HRV : Hid (∀ r, r < m → rowOf (vss.take m) r = rowOf vss r) := rV
      clear rK rV hk2 hv2 BW hlt hk
      generalize kss.take m = ks at *
      generalize vss.take m = vs at *
      go_wp2
      go_loopw [10] (fun i wr => ∃ k : Nat, k ≤ m ∧ i = .int .i64 k ∧ Puts w w5 wr w5.heap.size ks vs k) (fun i _ => m - (intOf i).toNat)
      case atStart => exact ⟨0, Nat.zero_le _, rfl, Puts.start B5⟩
      case round =>
        obtain ⟨k, hk, rfl, H⟩ := hrel
        by_cases hlt : k < m
        · obtain ⟨hsk, ak, hbk, hck, hrk⟩ := (NK.kept H.kept).atBlk k hlt
          obtain ⟨hsv, av, hbv, hcv, hrv⟩ := (NV.kept H.kept).atBlk k hlt
          have h1 : (0 : Int) ≤ (k : Int) := by omega
          have h2 : (k : Int) < (m : Int) := by omega
          have CP := H.put B5.size (by omega) (hsK k hlt) (hsV k hlt) wr.drew ((Below.refl _ _).drew) (below_drew_back wr 1) (hrk.below ((Below.refl _ _).drew)) (hrv.below ((Below.refl _ _).drew))
          clear H
          go_wp2
          go_region_held3 (fun w' => w'.cell? ⟨w2.heap.size, k, none⟩ = some (.slice ak (lenOf ks k) (lenOf ks k)) ∧ w'.cell? ⟨w3.heap.size, k, none⟩ = some (.slice av (lenOf vs k) (lenOf vs k)))
            (first | go_keep | exact ⟨Kept.cellOf hkp hbk (by decide) (by decide) hck, Kept.cellOf hkp hbv (by decide) (by decide) hcv⟩)
            ((go_at_call 24; refine CP.mono ?_; rintro e w' ⟨rfl, H', hkp⟩))
          go_wp2
          go_roundw
          case rel => exact ⟨k + 1, by omega, by go_num, H'⟩
          case measure => simp [intOf]; omega
        · obtain rfl : m = k := by omega
          obtain ⟨w6, rfl⟩ : ∃ w6, w6 = wr := ⟨_, rfl⟩
          have AK := NK.any H.kept hGk4
          have AV := NV.any H.kept hGv4
          have hk6 := hk5.kept H.kept
          have hv6 := hv5.kept H.kept
          have HB6 := H.bat
          have B6 := H.bel
          clear H hlt hk hk5 hv5 NK NV
          go_wp2
          go_loopw [11] (fun i wr => ∃ k : Nat, k ≤ m ∧ i = .int .i64 k ∧ Zon w4.heap.size w5.heap.size w6 wr ∧ AnyN wr w4.heap.size w5.heap.size w2.heap.size ks m ∧ AnyN wr w4.heap.size w5.heap.size w3.heap.size vs m) (fun i _ => m - (intOf i).toNat)
          case atStart => exact ⟨0, Nat.zero_le _, rfl, Zon.refl _ _ _, AK, AV⟩
          case round =>
            clear AK AV
            obtain ⟨k, hk, rfl, Z, AK, AV⟩ := hrel
            by_cases hlt : k < m
            · have hLK := hsK k hlt
              have hLV := hsV k hlt
              have i1 : (0 : Int) ≤ (k : Int) := by omega
              have i2 : (k : Int) < (m : Int) := by omega
              obtain ⟨a0, hca0, _⟩ := AK.at hlt
              go_wp2
              go_loopw [12] (fun j wr => ∃ jj : Nat, jj ≤ lenOf ks k ∧ j = .int .i64 jj ∧ Zon w4.heap.size w5.heap.size w6 wr ∧ AnyN wr w4.heap.size w5.heap.size w2.heap.size ks m ∧ AnyN wr w4.heap.size w5.heap.size w3.heap.size vs m) (fun j _ => lenOf ks k - (intOf j).toNat)
              case atStart => exact ⟨0, Nat.zero_le _, rfl, Z, AK, AV⟩
              case round =>
                clear Z AK AV hca0
                obtain ⟨jj, hjj, rfl, Z, AK, AV⟩ := hrel
                obtain ⟨a, hca, hel⟩ := AK.at hlt
                by_cases hj : jj < lenOf ks k
                · obtain ⟨g, z, rfl, hg1, hg2, hcz, hfz⟩ := hel jj hj
                  have i3 : (0 : Int) ≤ (jj : Int) := by omega
                  have i4 : (jj : Int) < (lenOf ks k : Int) := by omega
                  clear hel
                  go_wp2
                  go_region
                  have Z' : Zon w4.heap.size w5.heap.size w6 (wr.setCell ⟨g, jj, none⟩ (.int .u8 (bits .xor .u8 z 255))).drew := (Z.setCell hg1 hg2 _).drew
                  have AK' : AnyN (wr.setCell ⟨g, jj, none⟩ (.int .u8 (bits .xor .u8 z 255))).drew w4.heap.size w5.heap.size w2.heap.size ks m := (AK.set hg1).drew
                  have AV' : AnyN (wr.setCell ⟨g, jj, none⟩ (.int .u8 (bits .xor .u8 z 255))).drew w4.heap.size w5.heap.size w3.heap.size vs m := (AV.set hg1).drew
                  clear Z AK AV hcz hfz hca
                  go_wp2
                  go_roundw
                  case rel => exact ⟨jj + 1, by omega, by go_num, Z', AK', AV'⟩
                  case measure => simp [intOf]; omega
                · obtain ⟨b0, hcb0, _⟩ := AV.at hlt
                  clear hel
                  go_wp2
                  go_loopw [13] (fun j wr => ∃ jj : Nat, jj ≤ lenOf vs k ∧ j = .int .i64 jj ∧ Zon w4.heap.size w5.heap.size w6 wr ∧ AnyN wr w4.heap.size w5.heap.size w2.heap.size ks m ∧ AnyN wr w4.heap.size w5.heap.size w3.heap.size vs m) (fun j _ => lenOf vs k - (intOf j).toNat)
                  case atStart => exact ⟨0, Nat.zero_le _, rfl, Z, AK, AV⟩
                  case round =>
                    clear Z AK AV hcb0 hca
                    obtain ⟨j2, hjj2, rfl, Z, AK, AV⟩ := hrel
                    obtain ⟨a2, hca2, hel2⟩ := AV.at hlt
                    by_cases hj2 : j2 < lenOf vs k
                    · obtain ⟨g, z, rfl, hg1, hg2, hcz, hfz⟩ := hel2 j2 hj2
                      have i3 : (0 : Int) ≤ (j2 : Int) := by omega
                      have i4 : (j2 : Int) < (lenOf vs k : Int) := by omega
                      clear hel2
                      go_wp2
                      go_region
                      have Z' : Zon w4.heap.size w5.heap.size w6 (wr.setCell ⟨g, j2, none⟩ (.int .u8 (bits .xor .u8 z 255))).drew := (Z.setCell hg1 hg2 _).drew
                      have AK' : AnyN (wr.setCell ⟨g, j2, none⟩ (.int .u8 (bits .xor .u8 z 255))).drew w4.heap.size w5.heap.size w2.heap.size ks m := (AK.set hg1).drew
                      have AV' : AnyN (wr.setCell ⟨g, j2, none⟩ (.int .u8 (bits .xor .u8 z 255))).drew w4.heap.size w5.heap.size w3.heap.size vs m := (AV.set hg1).drew
                      clear Z AK AV hcz hfz hca2
                      go_wp2
                      go_roundw
                      case rel => exact ⟨j2 + 1, by omega, by go_num, Z', AK', AV'⟩
                      case measure => simp [intOf]; omega
                    · clear hel2
                      go_wp2
                      go_roundw
                      case rel => exact ⟨k + 1, by omega, by go_num, Z, AK, AV⟩
                      case measure => simp [intOf]; omega
            · obtain rfl : m = k := by omega
              have hk7 := hk6.zone Z (by omega)
              have hv7 := hv6.zone Z (by omega)
              have HB7 := (HB6.zone Z).congr HRK.out HRV.out
              have R := B6.trans (Z.below (B := w.heap.size) (by have := B2.size; omega))
              clear AK AV Z hk6 hv6 HB6 B6
              go_wp2_with fail
              refine (batchHolds_any w5.heap.size _ _ kss vss ka _ _ va _ _ m _ _ _ _ wr HB7 (by omega) hk7 HZ.out (by omega) hv7 HY.out (by omega) (fun r hr => hs1 r (by omega)) (fun r hr => hs2 r (by omega))).mono ?_
              rintro e w8 ⟨rfl, q, rfl⟩
              go_wp2
              go_ret
              exact ⟨rfl, below_drewN R q⟩

set_option maxRecDepth 100000 in
set_option maxHeartbeats 6400000 in
theorem keep_ge (ad : Option Addr) (n c : Nat) (kss : List (List Int)) (ad' : Option Addr) (m c' : Nat) (vss : List (List Int)) (w : World) (hz : kss.length = n) (hx : Nest w ad kss) (hnil : ad = none → n = 0) (hz' : vss.length = m) (hy : Nest w ad' vss) (hnil' : ad' = none → m = 0) (hn : n ≤ 65536) (hm : m ≤ 65536) (hmn : ¬ m < n) :
    Calls Trym.prog 9 #[.slice ad n c, .slice ad' m c'] w fun e w' => e = .returned (.bool true) ∧ Below w.heap.size w w' := by
  have hd : decide ((65536 : Int) < (n : Int)) = false := decide_eq_false (by omega)
  have hd2 : decide ((65536 : Int) < (m : Int)) = false := decide_eq_false (by omega)
  have hd4 : decide ((m : Int) < (n : Int)) = false := decide_eq_false (by omega)
  have HZ : Hid (kss.length = n) := hz
  have HY : Hid (vss.length = m) := hz'
  clear hz hz'
  obtain ⟨i0, hi, hz0, hz1, hz2⟩ := info_parts Trym.info22
  go_enter Trym.func9, Trym.ntmps9
  go_wp2_with fail
  refine (zz26_any ad n c kss ad' m c' vss w HZ.out hx HY.out hy).mono ?_
  rintro e w' ⟨hg, rfl⟩
  rcases hg with rfl | ⟨rfl, hs1, hs2⟩
  · go_wp2
    go_ret
    exact ⟨rfl, Below.refl _ _⟩
  go_wp2_with fail
  refine (nestedSize_any ad n c kss w HZ.out hn hx).mono ?_
  rintro e w' ⟨t1, rfl, ht1, ht1', rfl⟩
  go_wp2_with fail
  refine (nestedSize_any ad' m c' vss w HY.out hm hy).mono ?_
  rintro e w' ⟨t2, rfl, ht2, ht2', rfl⟩
  by_cases htt : (1048576 : Int) < t1 + t2
  · go_wp2
    go_ret
    exact ⟨rfl, Below.refl _ _⟩
  have hd3 : decide ((1048576 : Int) < t1 + t2) = false := decide_eq_false htt
  go_wp2_with fail
  refine (cloneNested_any ad n c kss w HZ.out hn hx hs1 hnil).mono ?_
  rintro e w1 ⟨ka, rfl, hk1, hb1⟩
  go_wp2_with fail
  refine (cloneNested_any ad' m c' vss w1 HY.out hm (hy.below hb1) hs2 hnil').mono ?_
  rintro e w2 ⟨va, rfl, hv2, hb2⟩
  have hk2 := hk1.kept (Kept.of_below hb2)
  have B2 : Below w.heap.size w w2 := hb1.trans (hb2.mono hb1.size)
  have hw12 := hb2.size
  clear hk1 hb1 hb2
  go_wp2_with (at_make; refine wpList_make_blk _ rfl _ _ 31 rfl 22 i0 (.slice none 0 0) 24 Trym.underlying31 hi hz0 hz1 hz2 rfl _ _ _ _ n n rfl rfl rfl rfl (Nat.le_refl _) (by omega) (by unfold maxLen; omega) ?_)
  intro w3 hb3 hbel3 hs3
  have HS3 : Hid (w3.heap.size = w2.heap.size + 1) := hs3
  clear hs3
  go_wp2_with (at_make; refine wpList_make_blk _ rfl _ _ 31 rfl 22 i0 (.slice none 0 0) 24 Trym.underlying31 hi hz0 hz1 hz2 rfl _ _ _ _ n n rfl rfl rfl rfl (Nat.le_refl _) (by omega) (by unfold maxLen; omega) ?_)
  intro w4 hb4 hbel4 hs4
  have HS4 : Hid (w4.heap.size = w3.heap.size + 1) := hs4
  clear hs4
  have NK0 : NestB w4 w4.heap.size w4.heap.size w2.heap.size (kss.take n) 0 := ⟨_, hb3.of_below hbel4 hb3.lt, by have := HZ.out; simp; omega, fun r hr => absurd hr (Nat.not_lt_zero _)⟩
  have NV0 : NestB w4 w4.heap.size w4.heap.size w3.heap.size (vss.take n) 0 := ⟨_, hb4, by have := HY.out; simp; omega, fun r hr => absurd hr (Nat.not_lt_zero _)⟩
  have B4 : Below w2.heap.size w2 w4 := hbel3.trans (hbel4.mono hbel3.size)
  have hGk : w2.heap.size ≠ w3.heap.size := by have := HS3.out; omega
  have hGk4 : w2.heap.size < w4.heap.size := by have := HS3.out; have := HS4.out; omega
  have hGv4 : w3.heap.size < w4.heap.size := by have := HS4.out; omega
  clear hb3 hb4 hbel3 hbel4
  go_wp2
  go_loopw [8] (fun i wr => ∃ k : Nat, k ≤ n ∧ i = .int .i64 k ∧ NestB wr w4.heap.size wr.heap.size w2.heap.size (kss.take n) k ∧ NestB wr w4.heap.size wr.heap.size w3.heap.size (vss.take n) k ∧ Below w2.heap.size w2 wr ∧ w4.heap.size ≤ wr.heap.size) (fun i _ => n - (intOf i).toNat)
  case atStart => exact ⟨0, Nat.zero_le _, rfl, NK0, NV0, B4, Nat.le_refl _⟩
  case round =>
    clear NK0 NV0 B4
    obtain ⟨k, hk, rfl, NK, NV, BW, hsz⟩ := hrel
    by_cases hlt : k < n
    · have hkw := hk2.kept (Kept.of_below BW)
      obtain ⟨Hk, hsk, ak, rfl, hbk, hck, hrk, hnk⟩ := hkw.atBlk k (by rw [HZ.out]; omega)
      have hlk := hs1 k (by omega)
      have hlv := hs2 k (by omega)
      have elk : lenOf (kss.take n) k = lenOf kss k := lenOf_take hlt
      have elv : lenOf (vss.take n) k = lenOf vss k := lenOf_take hlt
      have erk : rowOf (kss.take n) k = rowOf kss k := rowOf_take hlt
      have erv : rowOf (vss.take n) k = rowOf vss k := rowOf_take hlt
      have ELK : Hid (lenOf (kss.take n) k = lenOf kss k) := elk
      have ELV : Hid (lenOf (vss.take n) k = lenOf vss k) := elv
      have ERK : Hid (rowOf (kss.take n) k = rowOf kss k) := erk
      have ERV : Hid (rowOf (vss.take n) k = rowOf vss k) := erv
      clear elk elv erk erv
      go_wp2_with fail
      refine (cloneBytes_blk ak (lenOf kss k) _ (rowOf kss k) wr rfl hlk hrk hnk).mono ?_
      rintro e w5 ⟨a5, rfl, hb5, hd5⟩
      obtain ⟨⟨u5, hcell5⟩, hfro5, NK5⟩ := NK.next (a' := a5) (by have := HZ.out; simp; omega : (kss.take n).length = n) hlt hsz hb5 (by rw [ERK.out]; exact hd5)
      rw [ELK.out] at NK5
      obtain ⟨hs5, hbk5⟩ := NK.blk
      have NV5 := NV.far (j := k) (u := .slice a5 (lenOf kss k) (lenOf kss k)) hb5 (Ne.symm hGk) (hbk5.of_below hb5 hbk5.lt)
      have BW5 : Below w2.heap.size w2 (w5.setCell ⟨w2.heap.size, k, none⟩ (.slice a5 (lenOf kss k) (lenOf kss k))) := (BW.trans (hb5.mono BW.size)).setCell (Nat.le_refl _) _
      have hsz5 : w4.heap.size ≤ (w5.setCell ⟨w2.heap.size, k, none⟩ (.slice a5 (lenOf kss k) (lenOf kss k))).heap.size := by simpa using Nat.le_trans hsz hb5.size
      have hvw := hv2.kept (Kept.of_below BW5)
      have hvw5 := hv2.kept (Kept.of_below (BW.trans (hb5.mono BW.size)))
      obtain ⟨Hv, hsv, av, rfl, hbv, hcv, hrv, hnv⟩ := hvw.atBlk k (by rw [HY.out]; omega)
      obtain ⟨Hv', av', ev, hcv5, _, _⟩ := hvw5.atRow k (by rw [HY.out]; omega)
      cases ev
      have hHv : Hv ≠ w2.heap.size := by
        rcases hv2 with ⟨e, _⟩ | ⟨G, e, _, hl, _⟩
        · cases e
        · cases e; omega
      have eav : av' = av := by
        have e1 : (w5.setCell ⟨w2.heap.size, k, none⟩ (.slice a5 (lenOf kss k) (lenOf kss k))).cell? ⟨Hv, k, none⟩ = w5.cell? ⟨Hv, k, none⟩ := World.cell?_of_block (w := w5) (Below.heap_setCell _ _ _ _ (by exact hHv))
        rw [e1, hcv5] at hcv
        simpa using hcv
      subst eav
      clear NK NV BW hsz hd5 hb5 hck hbk5 hkw hvw hvw5 hcv
      go_wp2_with fail
      refine (cloneBytes_blk av' (lenOf vss k) _ (rowOf vss k) _ rfl hlv hrv hnv).mono ?_
      rintro e w7 ⟨a7, rfl, hb7, hd7⟩
      obtain ⟨⟨u7, hcell7⟩, hfro7, NV7⟩ := NV5.next (a' := a7) (by have := HY.out; simp; omega : (vss.take n).length = n) hlt hsz5 hb7 (by rw [ERV.out]; exact hd7)
      rw [ELV.out] at NV7
      obtain ⟨hs7, hbk7⟩ := NV5.blk
      have NK7 := NK5.far (j := k) (u := .slice a7 (lenOf vss k) (lenOf vss k)) hb7 hGk (hbk7.of_below hb7 hbk7.lt)
      have BW7 : Below w2.heap.size w2 (w7.setCell ⟨w3.heap.size, k, none⟩ (.slice a7 (lenOf vss k) (lenOf vss k))) := (BW5.trans (hb7.mono BW5.size)).setCell (by show w2.heap.size ≤ w3.heap.size; have := HS3.out; omega) _
      have hsz7 : w4.heap.size ≤ (w7.setCell ⟨w3.heap.size, k, none⟩ (.slice a7 (lenOf vss k) (lenOf vss k))).heap.size := by simpa using Nat.le_trans hsz5 hb7.size
      clear NK5 NV5 BW5 hsz5 hd7 hb7 hbk7 hcell5 hfro5 hcv5
      go_wp2
      go_roundw
      case rel => exact ⟨k + 1, by omega, by go_num, NK7, NV7, BW7, hsz7⟩
      case measure => simp [intOf]; omega
    · obtain rfl : n = k := by omega
      obtain ⟨w5, rfl⟩ : ∃ w5, w5 = wr := ⟨_, rfl⟩
      have B5 : Below w.heap.size w w5 := B2.trans (BW.mono B2.size)
      have hk5 := hk2.kept (Kept.of_below BW)
      have hv5 := hv2.kept (Kept.of_below BW)
      have hsK : ∀ r, r < n → lenOf (kss.take n) r ≤ 1048576 := fun r hr => by rw [lenOf_take hr]; exact hs1 r (by omega)
      have hsV : ∀ r, r < n → lenOf (vss.take n) r ≤ 1048576 := fun r hr => by rw [lenOf_take hr]; exact hs2 r (by omega)
      have rK : ∀ r, r < n → rowOf (kss.take n) r = rowOf kss r := fun r hr => rowOf_take hr
      have rV : ∀ r, r < n → rowOf (vss.take n) r = rowOf vss r := fun r hr => rowOf_take hr
      have HRK : Hid (∀ r, r < n → rowOf (kss.take n) r = rowOf kss r) := rK
      have HRV : Hid (∀ r, r < n → rowOf (vss.take n) r = rowOf vss r) := rV
      clear rK rV hk2 hv2 BW hlt hk
      generalize kss.take n = ks at *
      generalize vss.take n = vs at *
      go_wp2
      go_loopw [10] (fun i wr => ∃ k : Nat, k ≤ n ∧ i = .int .i64 k ∧ Puts w w5 wr w5.heap.size ks vs k) (fun i _ => n - (intOf i).toNat)
      case atStart => exact ⟨0, Nat.zero_le _, rfl, Puts.start B5⟩
      case round =>
        obtain ⟨k, hk, rfl, H⟩ := hrel
        by_cases hlt : k < n
        · obtain ⟨hsk, ak, hbk, hck, hrk⟩ := (NK.kept H.kept).atBlk k hlt
          obtain ⟨hsv, av, hbv, hcv, hrv⟩ := (NV.kept H.kept).atBlk k hlt
          have h1 : (0 : Int) ≤ (k : Int) := by omega
          have h2 : (k : Int) < (n : Int) := by omega
          have CP := H.put B5.size (by omega) (hsK k hlt) (hsV k hlt) wr.drew ((Below.refl _ _).drew) (below_drew_back wr 1) (hrk.below ((Below.refl _ _).drew)) (hrv.below ((Below.refl _ _).drew))
          clear H
          go_wp2
          go_region_held3 (fun w' => w'.cell? ⟨w2.heap.size, k, none⟩ = some (.slice ak (lenOf ks k) (lenOf ks k)) ∧ w'.cell? ⟨w3.heap.size, k, none⟩ = some (.slice av (lenOf vs k) (lenOf vs k)))
            (first | go_keep | exact ⟨Kept.cellOf hkp hbk (by decide) (by decide) hck, Kept.cellOf hkp hbv (by decide) (by decide) hcv⟩)
            ((go_at_call 24; refine CP.mono ?_; rintro e w' ⟨rfl, H', hkp⟩))
          go_wp2
          go_roundw
          case rel => exact ⟨k + 1, by omega, by go_num, H'⟩
          case measure => simp [intOf]; omega
        · obtain rfl : n = k := by omega
          obtain ⟨w6, rfl⟩ : ∃ w6, w6 = wr := ⟨_, rfl⟩
          have AK := NK.any H.kept hGk4
          have AV := NV.any H.kept hGv4
          have hk6 := hk5.kept H.kept
          have hv6 := hv5.kept H.kept
          have HB6 := H.bat
          have B6 := H.bel
          clear H hlt hk hk5 hv5 NK NV
          go_wp2
          go_loopw [11] (fun i wr => ∃ k : Nat, k ≤ n ∧ i = .int .i64 k ∧ Zon w4.heap.size w5.heap.size w6 wr ∧ AnyN wr w4.heap.size w5.heap.size w2.heap.size ks n ∧ AnyN wr w4.heap.size w5.heap.size w3.heap.size vs n) (fun i _ => n - (intOf i).toNat)
          case atStart => exact ⟨0, Nat.zero_le _, rfl, Zon.refl _ _ _, AK, AV⟩
          case round =>
            clear AK AV
            obtain ⟨k, hk, rfl, Z, AK, AV⟩ := hrel
            by_cases hlt : k < n
            · have hLK := hsK k hlt
              have hLV := hsV k hlt
              have i1 : (0 : Int) ≤ (k : Int) := by omega
              have i2 : (k : Int) < (n : Int) := by omega
              obtain ⟨a0, hca0, _⟩ := AK.at hlt
              go_wp2
              go_loopw [12] (fun j wr => ∃ jj : Nat, jj ≤ lenOf ks k ∧ j = .int .i64 jj ∧ Zon w4.heap.size w5.heap.size w6 wr ∧ AnyN wr w4.heap.size w5.heap.size w2.heap.size ks n ∧ AnyN wr w4.heap.size w5.heap.size w3.heap.size vs n) (fun j _ => lenOf ks k - (intOf j).toNat)
              case atStart => exact ⟨0, Nat.zero_le _, rfl, Z, AK, AV⟩
              case round =>
                clear Z AK AV hca0
                obtain ⟨jj, hjj, rfl, Z, AK, AV⟩ := hrel
                obtain ⟨a, hca, hel⟩ := AK.at hlt
                by_cases hj : jj < lenOf ks k
                · obtain ⟨g, z, rfl, hg1, hg2, hcz, hfz⟩ := hel jj hj
                  have i3 : (0 : Int) ≤ (jj : Int) := by omega
                  have i4 : (jj : Int) < (lenOf ks k : Int) := by omega
                  clear hel
                  go_wp2
                  go_region
                  have Z' : Zon w4.heap.size w5.heap.size w6 (wr.setCell ⟨g, jj, none⟩ (.int .u8 (bits .xor .u8 z 255))).drew := (Z.setCell hg1 hg2 _).drew
                  have AK' : AnyN (wr.setCell ⟨g, jj, none⟩ (.int .u8 (bits .xor .u8 z 255))).drew w4.heap.size w5.heap.size w2.heap.size ks n := (AK.set hg1).drew
                  have AV' : AnyN (wr.setCell ⟨g, jj, none⟩ (.int .u8 (bits .xor .u8 z 255))).drew w4.heap.size w5.heap.size w3.heap.size vs n := (AV.set hg1).drew
                  clear Z AK AV hcz hfz hca
                  go_wp2
                  go_roundw
                  case rel => exact ⟨jj + 1, by omega, by go_num, Z', AK', AV'⟩
                  case measure => simp [intOf]; omega
                · obtain ⟨b0, hcb0, _⟩ := AV.at hlt
                  clear hel
                  go_wp2
                  go_loopw [13] (fun j wr => ∃ jj : Nat, jj ≤ lenOf vs k ∧ j = .int .i64 jj ∧ Zon w4.heap.size w5.heap.size w6 wr ∧ AnyN wr w4.heap.size w5.heap.size w2.heap.size ks n ∧ AnyN wr w4.heap.size w5.heap.size w3.heap.size vs n) (fun j _ => lenOf vs k - (intOf j).toNat)
                  case atStart => exact ⟨0, Nat.zero_le _, rfl, Z, AK, AV⟩
                  case round =>
                    clear Z AK AV hcb0 hca
                    obtain ⟨j2, hjj2, rfl, Z, AK, AV⟩ := hrel
                    obtain ⟨a2, hca2, hel2⟩ := AV.at hlt
                    by_cases hj2 : j2 < lenOf vs k
                    · obtain ⟨g, z, rfl, hg1, hg2, hcz, hfz⟩ := hel2 j2 hj2
                      have i3 : (0 : Int) ≤ (j2 : Int) := by omega
                      have i4 : (j2 : Int) < (lenOf vs k : Int) := by omega
                      clear hel2
                      go_wp2
                      go_region
                      have Z' : Zon w4.heap.size w5.heap.size w6 (wr.setCell ⟨g, j2, none⟩ (.int .u8 (bits .xor .u8 z 255))).drew := (Z.setCell hg1 hg2 _).drew
                      have AK' : AnyN (wr.setCell ⟨g, j2, none⟩ (.int .u8 (bits .xor .u8 z 255))).drew w4.heap.size w5.heap.size w2.heap.size ks n := (AK.set hg1).drew
                      have AV' : AnyN (wr.setCell ⟨g, j2, none⟩ (.int .u8 (bits .xor .u8 z 255))).drew w4.heap.size w5.heap.size w3.heap.size vs n := (AV.set hg1).drew
                      clear Z AK AV hcz hfz hca2
                      go_wp2
                      go_roundw
                      case rel => exact ⟨j2 + 1, by omega, by go_num, Z', AK', AV'⟩
                      case measure => simp [intOf]; omega
                    · clear hel2
                      go_wp2
                      go_roundw
                      case rel => exact ⟨k + 1, by omega, by go_num, Z, AK, AV⟩
                      case measure => simp [intOf]; omega
            · obtain rfl : n = k := by omega
              have hk7 := hk6.zone Z (by omega)
              have hv7 := hv6.zone Z (by omega)
              have HB7 := (HB6.zone Z).congr HRK.out HRV.out
              have R := B6.trans (Z.below (B := w.heap.size) (by have := B2.size; omega))
              clear AK AV Z hk6 hv6 HB6 B6
              go_wp2_with fail
              refine (batchHolds_any w5.heap.size _ _ kss vss ka _ _ va _ _ n _ _ _ _ wr HB7 (by omega) hk7 HZ.out (by omega) hv7 HY.out (by omega) (fun r hr => hs1 r (by omega)) (fun r hr => hs2 r (by omega))).mono ?_
              rintro e w8 ⟨rfl, q, rfl⟩
              go_wp2
              go_ret
              exact ⟨rfl, below_drewN R q⟩

set_option maxHeartbeats 800000 in
theorem keep_big (ad : Option Addr) (n c : Nat) (kss : List (List Int)) (ad' : Option Addr) (m c' : Nat) (vss : List (List Int)) (w : World) (hz : kss.length = n) (hx : Nest w ad kss) (hz' : vss.length = m) (hy : Nest w ad' vss) (hbig : 65536 < n ∨ 65536 < m) :
    Calls Trym.prog 9 #[.slice ad n c, .slice ad' m c'] w fun e w' => e = .returned (.bool true) ∧ Below w.heap.size w w' := by
  have HZ : Hid (kss.length = n) := hz
  have HY : Hid (vss.length = m) := hz'
  clear hz hz'
  by_cases h1 : 65536 < n
  · have hd : decide ((65536 : Int) < (n : Int)) = true := decide_eq_true (by omega)
    clear hbig
    go_enter Trym.func9, Trym.ntmps9
    go_wp2_with fail
    refine (zz26_any ad n c kss ad' m c' vss w HZ.out hx HY.out hy).mono ?_
    rintro e w' ⟨hg, rfl⟩
    rcases hg with rfl | ⟨rfl, hs1, hs2⟩
    · go_wp2
      go_ret
      exact ⟨rfl, Below.refl _ _⟩
    · go_wp2
      go_ret
      exact ⟨rfl, Below.refl _ _⟩
  · have hd : decide ((65536 : Int) < (n : Int)) = false := decide_eq_false (by omega)
    have hd2 : decide ((65536 : Int) < (m : Int)) = true := decide_eq_true (by omega)
    clear hbig
    go_enter Trym.func9, Trym.ntmps9
    go_wp2_with fail
    refine (zz26_any ad n c kss ad' m c' vss w HZ.out hx HY.out hy).mono ?_
    rintro e w' ⟨hg, rfl⟩
    rcases hg with rfl | ⟨rfl, hs1, hs2⟩
    · go_wp2
      go_ret
      exact ⟨rfl, Below.refl _ _⟩
    · go_wp2
      go_ret
      exact ⟨rfl, Below.refl _ _⟩

theorem keep_all (ad : Option Addr) (n c : Nat) (kss : List (List Int)) (ad' : Option Addr) (m c' : Nat) (vss : List (List Int)) (w : World) (hz : kss.length = n) (hx : Nest w ad kss) (hnil : ad = none → n = 0) (hz' : vss.length = m) (hy : Nest w ad' vss) (hnil' : ad' = none → m = 0) :
    Calls Trym.prog 9 #[.slice ad n c, .slice ad' m c'] w fun e w' => e = .returned (.bool true) ∧ Below w.heap.size w w' := by
  by_cases hbig : 65536 < n ∨ 65536 < m
  · exact keep_big ad n c kss ad' m c' vss w hz hx hz' hy hbig
  · by_cases hmn : m < n
    · exact keep_lt ad n c kss ad' m c' vss w hz hx hnil hz' hy hnil' (by omega) (by omega) hmn
    · exact keep_ge ad n c kss ad' m c' vss w hz hx hnil hz' hy hnil' (by omega) (by omega) hmn

end Go.Proofs.Qxb6600466aMods

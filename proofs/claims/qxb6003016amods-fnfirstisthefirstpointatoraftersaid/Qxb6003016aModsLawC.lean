import Derived.Test.Qxb6003016aModsLawA
import Derived.Test.Qxb6003016aModsPlainG
namespace Go.Proofs.Qxb6003016aMods
open Go.RowKit
set_option linter.unusedVariables false
set_option linter.unusedSimpArgs false

set_option maxRecDepth 100000 in
set_option maxHeartbeats 6400000 in
theorem law_wide (wa : Option Addr) (wl wc : Nat) (na : Option Addr) (nl nc : Nat) (sa : Option Addr) (sl sc : Nat) (oa : Option Addr) (n oc : Nat) (p : Int) (w : World) (wide nar sts own : List Int) (hwz : wide.length = wl) (hwr : Row .u32 w wa wide) (hwb : ∀ j, 0 ≤ nth wide j ∧ nth wide j ≤ 4294967295) (hwn : wa = none → wl = 0) (hnz : nar.length = nl) (hnr : Row .u16 w na nar) (hnb : ∀ j, 0 ≤ nth nar j ∧ nth nar j ≤ 65535) (hnn : na = none → nl = 0)
    (hsz : sts.length = sl) (hsr : Row .u32 w sa sts) (hsb : ∀ j, 0 ≤ nth sts j ∧ nth sts j ≤ 4294967295) (hsn : sa = none → sl = 0) (hoz : own.length = n) (hor : Row .u16 w oa own) (hon : oa = none → n = 0) (hp : 0 ≤ p ∧ p ≤ 4294967295)
    (l1 : wl ≤ 262144) (l2 : nl ≤ 524288) (l3 : sl ≤ 262144) (l4 : n ≤ 524288) (l5 : 4 * wl + 2 * nl + 4 * sl + 2 * n ≤ 1048576) (hsnil : sa = none) :
    Calls Trym.prog 3 #[.slice wa wl wc, .slice na nl nc, .slice sa sl sc, .slice oa n oc, .int .u32 p] w fun e w' => e = .returned (.bool true) ∧ Below w.heap.size w w' := by
  obtain ⟨i0, hi, hz0, hz1, hz2⟩ := info_parts Trym.info24
  subst hsnil
  obtain rfl : sl = 0 := hsn rfl
  have d1 : decide ((262144 : Int) < (wl : Int)) = false := decide_eq_false (by omega)
  have d2 : decide ((524288 : Int) < (nl : Int)) = false := decide_eq_false (by omega)
  have d4 : decide ((524288 : Int) < (n : Int)) = false := decide_eq_false (by omega)
  have d5 : decide ((1048576 : Int) < 4 * (wl : Int) + 2 * (nl : Int) + 2 * (n : Int)) = false := decide_eq_false (by omega)
  have HWZ : Hid (wide.length = wl) := hwz
  have HNZ : Hid (nar.length = nl) := hnz
  have HSZ : Hid (sts.length = 0) := hsz
  have HOZ : Hid (own.length = n) := hoz
  clear hwz hnz hsz hoz
  go_enter Trym.func3, Trym.ntmps3
  go_wp2_with fail
  refine (zz4_any _ _ _ _ _ _ _ _ _ _ _ _ _ _).mono ?_
  rintro e w' ⟨hg, rfl⟩
  rcases hg with rfl | ⟨rfl, hsum⟩
  · go_wp2
    go_ret
    exact ⟨rfl, Below.refl _ _⟩
  go_wp2_with fail
  refine (clone_5 wa wl wc wide w HWZ.out (by omega) hwr hwn).mono ?_
  rintro e w1 ⟨wa', rfl, hwr1, b1, _, _⟩
  go_wp2_with fail
  refine (clone_6 na nl nc nar w1 HNZ.out (by omega) (hnr.below b1) hnn).mono ?_
  rintro e w2 ⟨na', rfl, hnr2, b2, hna2, hnx2⟩
  have B2 : Below w.heap.size w w2 := b1.trans (b2.mono b1.size)
  go_wp2_with fail
  refine (clone_5 none 0 sc sts w2 HSZ.out (by omega) (hsr.below B2) (fun _ => rfl)).mono ?_
  rintro e w3 ⟨sa', rfl, hsr3, b3, hsa3, hsx3⟩
  have B3 : Below w.heap.size w w3 := B2.trans (b3.mono B2.size)
  go_wp2_with fail
  refine (clone_6 oa n oc own w3 HOZ.out (by omega) (hor.below B3) hon).mono ?_
  rintro e w4 ⟨oa', rfl, hor4, b4, _, _⟩
  have B4 : Below w.heap.size w w4 := B3.trans (b4.mono B3.size)
  have hwr4 := ((hwr1.below b2).below b3).below b4
  have hnr4 := (hnr2.below b3).below b4
  have hsr4 := hsr3.below b4
  clear hwr1 hnr2 hsr3 b1 b2 b3 b4 B2 B3 hor4
  by_cases hn0 : n = 0
  · clear d1 d2 d4 d5 l1 l2 l3 l4 l5 hon hor hwn hnn hsn hna2 hnx2 hsa3 hsx3 hwr4 hnr4 hsr4 hsum hwb hnb hsb hwr hnr hsr
    subst hn0
    go_wp2
    go_ret
    exact ⟨rfl, B4⟩
  have q0 : ((n : Int) == 0) = false := by rw [beq_eq_false_iff_ne]; omega
  obtain rfl : sa' = none := hsa3.1 trivial
  have he := fun w => Lib.run_eql_slice_nil (P := Trym.prog) w 22 24 none 0 0 0 0 Trym.underlying22
  by_cases hwn2 : wl = n
  · have q1 : ((wl : Int) != (n : Int)) = false := by rw [bne_eq_false_iff_eq]; omega
    have HWN : Hid (wl = n) := hwn2
    clear hwn2
    go_wp2_with (at_make; refine wpList_make_blk _ rfl _ _ 22 rfl 24 i0 (.int .u32 0) 4 Trym.underlying22 hi hz0 hz1 hz2 rfl _ _ _ _ n n rfl rfl rfl rfl (Nat.le_refl _) (by omega) (by unfold maxLen; omega) ?_)
    intro w5 hb5 hbel5 hs5
    have HB5 : ∃ xs : List Int, xs.length = n ∧ Blk w5 w4.heap.size 24 (ints .u32 xs) ∧ ∀ j, j < 0 → nth xs j = nth wide j := ⟨List.replicate n 0, by simp, by simpa [ints] using hb5, fun j hj => absurd hj (Nat.not_lt_zero _)⟩
    clear hs5 hb5
    go_wp2
    go_loopw [13] (fun i wr => ∃ k : Nat, k ≤ n ∧ i = .int .i64 k ∧ (∃ xs : List Int, xs.length = n ∧ Blk wr w4.heap.size 24 (ints .u32 xs) ∧ ∀ j, j < k → nth xs j = nth wide j) ∧ Below w4.heap.size w4 wr) (fun i _ => n - (intOf i).toNat)
    case atStart => exact ⟨0, Nat.zero_le _, rfl, HB5, hbel5⟩
    case round =>
      clear HB5 hbel5
      obtain ⟨k, hk, rfl, ⟨xs, hxl, hblk, hxs⟩, hbel⟩ := hrel
      have HXL : Hid (xs.length = n) := hxl
      have HXS : Hid (∀ j, j < k → nth xs j = nth wide j) := hxs
      clear hxl hxs
      by_cases hlt : k < n
      · have hlt' : (k : Int) < (wl : Int) := by have := HWN.out; omega
        obtain ⟨b, off, rfl, hlb, hc⟩ := (hwr4.below hbel) k (by rw [HWZ.out, HWN.out]; exact hlt)
        have hw : wr.cell? ⟨w4.heap.size, k, none⟩ = some (.int .u32 (nth xs k)) := by
          rw [hblk.cell, ints_get _ _ _ (by rw [HXL.out]; exact hlt)]
        have hf := hblk.frozen k
        have R1 : Hid (Blk (wr.setCell ⟨w4.heap.size, k, none⟩ (.int .u32 (nth wide k))) w4.heap.size 24 (ints .u32 (xs.set k (nth wide k)))) := by
          unfold Hid
          rw [← ints_set]
          exact hblk.set k _
        have R2 : Hid (Below w4.heap.size w4 (wr.setCell ⟨w4.heap.size, k, none⟩ (.int .u32 (nth wide k)))) := hbel.setCell (Nat.le_refl _) _
        clear hbel hblk
        go_wp2
        go_roundw
        case rel => exact ⟨k + 1, by omega, by go_num, ⟨xs.set k (nth wide k), by simpa using HXL.out, R1.out, set_snoc HXS.out (by rw [HXL.out]; exact hlt)⟩, R2.out⟩
        case measure => simp [intOf]; omega
      · obtain rfl : n = k := by omega
        have e : xs = wide := by
          apply List.ext_getElem (by rw [HXL.out, HWZ.out, HWN.out])
          intro i h1 h2
          rw [← nth_get h1, ← nth_get h2]
          exact HXS.out i (by rw [HXL.out] at h1; exact h1)
        subst e
        obtain ⟨w6, rfl⟩ : ∃ w6, w6 = wr := ⟨_, rfl⟩
        have B6 : Below w.heap.size w w6 := B4.trans (hbel.mono B4.size)
        have hwr6 := hwr4.below hbel
        have hxb := hwb
        clear hwr4 hnr4 hsr4 hbel B4 hlt hk HXS
        go_wp2
        go_loopw [17] (fun i wr => ∃ k : Nat, 1 ≤ k ∧ k ≤ n ∧ i = .int .i64 k ∧ (∀ j, j + 1 < k → nth xs j ≤ nth xs (j + 1)) ∧ ∃ q, wr = w6.drewN q) (fun i _ => n - (intOf i).toNat)
        case atStart => exact ⟨1, Nat.le_refl _, by omega, rfl, fun j hj => by omega, 0, rfl⟩
        case round =>
          obtain ⟨k, hk1, hk, rfl, hadj, q, rfl⟩ := hrel
          have HADJ : Hid (∀ j, j + 1 < k → nth xs j ≤ nth xs (j + 1)) := hadj
          clear hadj
          by_cases hlt : k < n
          · have c1 : w6.cell? ⟨w4.heap.size, k, none⟩ = some (.int .u32 (nth xs k)) := by rw [hblk.cell, ints_get _ _ _ (by rw [HXL.out]; exact hlt)]
            have c2 : w6.cell? ⟨w4.heap.size, k - 1, none⟩ = some (.int .u32 (nth xs (k - 1))) := by rw [hblk.cell, ints_get _ _ _ (by rw [HXL.out]; omega)]
            have i0 : (0 : Int) ≤ (k : Int) := by omega
            have i1 : (k : Int) < (n : Int) := by omega
            have i2 : (0 : Int) ≤ (k : Int) - 1 := by omega
            have i3 : (k : Int) - 1 < (n : Int) := by omega
            have i4 : ((k : Int) - 1).toNat = k - 1 := by omega
            have i5 : IntKind.i64.wrap ((k : Int) - 1) = (k : Int) - 1 := by rw [IntKind.wrap_i64]; omega
            by_cases hcmp : nth xs k < nth xs (k - 1)
            · have hc3 : decide (nth xs k < nth xs (k - 1)) = true := decide_eq_true hcmp
              go_wp2
              go_quiet (fail)
              go_wp2
              go_ret
              exact ⟨rfl, below_drewN (below_drewN B6 q) nq⟩
            · have hc3 : decide (nth xs k < nth xs (k - 1)) = false := decide_eq_false hcmp
              have HADJ' : Hid (∀ j, j + 1 < k + 1 → nth xs j ≤ nth xs (j + 1)) := adj_snoc HADJ.out hk1 (by omega)
              go_wp2
              go_quiet (fail)
              go_wp2
              go_roundw
              case rel => exact ⟨k + 1, by omega, by omega, by go_num, HADJ'.out, _, rfl⟩
              case measure => simp [intOf]; omega
          · obtain rfl : n = k := by omega
            have hsrt : Srt xs := srt_of HXL.out HADJ.out
            obtain ⟨w7, HW7⟩ : ∃ w7, Hid (w7 = w6.drewN q) := ⟨_, rfl⟩
            have B7 : Below w.heap.size w (w6.drewN q) := below_drewN B6 q
            clear HADJ hlt hk hk1
            go_wp2
            go_loop [18, 19] (fun x i => ∃ k : Nat, k ≤ n ∧ i = .int .i64 k ∧ x = .int .i64 0 ∧ ∀ j, j < k → nth xs j < p) (fun _ i => n - (intOf i).toNat)
            case atStart => exact ⟨0, Nat.zero_le _, rfl, rfl, fun j hj => absurd hj (Nat.not_lt_zero _)⟩
            case round =>
              obtain ⟨k, hk, rfl, rfl, hbef⟩ := hrel
              have HBEF : Hid (∀ j, j < k → nth xs j < p) := hbef
              clear hbef
              by_cases hlt : k < n
              · have c1 : w6.cell? ⟨w4.heap.size, k, none⟩ = some (.int .u32 (nth xs k)) := by rw [hblk.cell, ints_get _ _ _ (by rw [HXL.out]; exact hlt)]
                by_cases hcmp : p ≤ nth xs k
                · have G : FG xs p k := ⟨by rw [HXL.out]; exact hk, HBEF.out, fun _ => hcmp⟩
                  go_wp2_with fail
                  obtain rfl : n = wl := HWN.out.symm
                  refine (zzFirst_wide wa' n n na' nl nl oa' n xs p (w6.drewN q) HXL.out (by omega) (hwr6.below (below_drewN (Below.refl _ _) q)) hxb hp hsrt).mono ?_
                  rintro e w8 ⟨i, rfl, G', b8⟩
                  obtain rfl : i = k := G'.uniq G
                  rw [show wrapAt n i = i from if_neg (by omega)]
                  go_wp2
                  go_ret
                  exact ⟨by simp, B7.trans (b8.mono B7.size)⟩
                · have hcmp' : nth xs k < p := by omega
                  go_wp2
                  go_round
                  case rel => exact ⟨k + 1, by omega, by go_num, rfl, bef_snoc HBEF.out hcmp'⟩
                  case measure => simp [intOf]; omega
              · obtain rfl : n = k := by omega
                have G : FG xs p n := ⟨by rw [HXL.out]; exact Nat.le_refl _, HBEF.out, fun h => by rw [HXL.out] at h; omega⟩
                go_wp2_with fail
                obtain rfl : n = wl := HWN.out.symm
                refine (zzFirst_wide wa' n n na' nl nl oa' n xs p (w6.drewN q) HXL.out (by omega) (hwr6.below (below_drewN (Below.refl _ _) q)) hxb hp hsrt).mono ?_
                rintro e w8 ⟨i, rfl, G', b8⟩
                obtain rfl : i = n := G'.uniq G
                rw [show wrapAt i i = 0 from if_pos rfl]
                go_wp2
                go_ret
                exact ⟨by simp, B7.trans (b8.mono B7.size)⟩
  · have q1 : ((wl : Int) != (n : Int)) = true := by rw [bne_iff_ne]; omega
    go_wp2_with (at_make; refine wpList_make_blk _ rfl _ _ 22 rfl 24 i0 (.int .u32 0) 4 Trym.underlying22 hi hz0 hz1 hz2 rfl _ _ _ _ n n rfl rfl rfl rfl (Nat.le_refl _) (by omega) (by unfold maxLen; omega) ?_)
    intro w5 hb5 hbel5 hs5
    go_wp2
    go_ret
    exact ⟨rfl, B4.trans (hbel5.mono B4.size)⟩

end Go.Proofs.Qxb6003016aMods

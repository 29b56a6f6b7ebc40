import Derived.Test.Qxb6003016aModsLawA
import Derived.Test.Qxb6003016aModsLawN
import Derived.Test.Qxb6003016aModsLawB
namespace Go.Proofs.Qxb6003016aMods
open Go.RowKit
set_option linter.unusedVariables false
set_option linter.unusedSimpArgs false

set_option maxRecDepth 100000 in
set_option maxHeartbeats 6400000 in
theorem law_narrow (wa : Option Addr) (wl wc : Nat) (na : Option Addr) (nl nc : Nat) (sa : Option Addr) (sl sc : Nat) (oa : Option Addr) (n oc : Nat) (p : Int) (w : World) (wide nar sts own : List Int) (hwz : wide.length = wl) (hwr : Row .u32 w wa wide) (hwb : ∀ j, 0 ≤ nth wide j ∧ nth wide j ≤ 4294967295) (hwn : wa = none → wl = 0) (hnz : nar.length = nl) (hnr : Row .u16 w na nar) (hnb : ∀ j, 0 ≤ nth nar j ∧ nth nar j ≤ 65535) (hnn : na = none → nl = 0)
    (hsz : sts.length = sl) (hsr : Row .u32 w sa sts) (hsb : ∀ j, 0 ≤ nth sts j ∧ nth sts j ≤ 4294967295) (hsn : sa = none → sl = 0) (hoz : own.length = n) (hor : Row .u16 w oa own) (hon : oa = none → n = 0) (hp : 0 ≤ p ∧ p ≤ 4294967295)
    (l1 : wl ≤ 262144) (l2 : nl ≤ 524288) (l3 : sl ≤ 262144) (l4 : n ≤ 524288) (l5 : 4 * wl + 2 * nl + 4 * sl + 2 * n ≤ 1048576) (hsome : sa ≠ none) :
    Calls Trym.prog 3 #[.slice wa wl wc, .slice na nl nc, .slice sa sl sc, .slice oa n oc, .int .u32 p] w fun e w' => e = .returned (.bool true) ∧ Below w.heap.size w w' := by
  obtain ⟨i0, hi, hz0, hz1, hz2⟩ := info_parts Trym.info24
  have d1 : decide ((262144 : Int) < (wl : Int)) = false := decide_eq_false (by omega)
  have d2 : decide ((524288 : Int) < (nl : Int)) = false := decide_eq_false (by omega)
  have d3 : decide ((262144 : Int) < (sl : Int)) = false := decide_eq_false (by omega)
  have d4 : decide ((524288 : Int) < (n : Int)) = false := decide_eq_false (by omega)
  have d5 : decide ((1048576 : Int) < 4 * (wl : Int) + 2 * (nl : Int) + 4 * (sl : Int) + 2 * (n : Int)) = false := decide_eq_false (by omega)
  have HWZ : Hid (wide.length = wl) := hwz
  have HNZ : Hid (nar.length = nl) := hnz
  have HSZ : Hid (sts.length = sl) := hsz
  have HOZ : Hid (own.length = n) := hoz
  clear hwz hnz hsz hoz
  go_enter Trym.func3, Trym.ntmps3
  go_wp2_with fail
  refine (zz4_any _ _ _ _ _ _ _ _ _ _ _ _ _ _).mono ?_
  rintro e w' ⟨hg, rfl⟩
  rcases hg with rfl | ⟨rfl, hsum⟩
  · go_wp2
    go_ret
    exact ⟨rfl, Below.refl _ _⟩
  go_wp2_with fail
  refine (clone_5 wa wl wc wide w HWZ.out (by omega) hwr hwn).mono ?_
  rintro e w1 ⟨wa', rfl, hwr1, b1, _, _⟩
  go_wp2_with fail
  refine (clone_6 na nl nc nar w1 HNZ.out (by omega) (hnr.below b1) hnn).mono ?_
  rintro e w2 ⟨na', rfl, hnr2, b2, hna2, hnx2⟩
  have B2 : Below w.heap.size w w2 := b1.trans (b2.mono b1.size)
  go_wp2_with fail
  refine (clone_5 sa sl sc sts w2 HSZ.out (by omega) (hsr.below B2) hsn).mono ?_
  rintro e w3 ⟨sa', rfl, hsr3, b3, hsa3, hsx3⟩
  have B3 : Below w.heap.size w w3 := B2.trans (b3.mono B2.size)
  go_wp2_with fail
  refine (clone_6 oa n oc own w3 HOZ.out (by omega) (hor.below B3) hon).mono ?_
  rintro e w4 ⟨oa', rfl, hor4, b4, _, _⟩
  have B4 : Below w.heap.size w w4 := B3.trans (b4.mono B3.size)
  have hwr4 := ((hwr1.below b2).below b3).below b4
  have hnr4 := (hnr2.below b3).below b4
  have hsr4 := hsr3.below b4
  clear hwr1 hnr2 hsr3 b1 b2 b3 b4 B2 B3 hor4
  by_cases hn0 : n = 0
  · clear d1 d2 d4 d5 l1 l2 l3 l4 l5 hon hor hwn hnn hsn hna2 hnx2 hsa3 hsx3 hwr4 hnr4 hsr4 hsum hwb hnb hsb hwr hnr hsr
    subst hn0
    go_wp2
    go_ret
    exact ⟨rfl, B4⟩
  have q0 : ((n : Int) == 0) = false := by rw [beq_eq_false_iff_ne]; omega
  obtain ⟨S, rfl⟩ : ∃ S, sa' = some ⟨S, 0, none⟩ := by
    cases hc : sa' with
    | none => exact absurd (hsa3.2 hc) hsome
    | some a =>
      obtain ⟨e1, e2⟩ := hsx3 a hc
      obtain ⟨S, o, sp⟩ := a
      simp only at e1 e2
      subst e1
      subst e2
      exact ⟨S, rfl⟩
  have he := fun w => Lib.run_eql_slice_nil (P := Trym.prog) w 22 24 (some ⟨S, 0, none⟩) sl sl 0 0 Trym.underlying22
  go_wp2_with (at_make; refine wpList_make_blk _ rfl _ _ 22 rfl 24 i0 (.int .u32 0) 4 Trym.underlying22 hi hz0 hz1 hz2 rfl _ _ _ _ n n rfl rfl rfl rfl (Nat.le_refl _) (by omega) (by unfold maxLen; omega) ?_)
  intro w5 hb5 hbel5 hs5
  have B5 : Below w.heap.size w w5 := B4.trans (hbel5.mono B4.size)
  have hnr5 := hnr4.below hbel5
  have hsr5 := hsr4.below hbel5
  have HB5 : ∃ xs : List Int, xs.length = n ∧ Blk w5 w4.heap.size 24 (ints .u32 xs) := ⟨List.replicate n 0, by simp, by simpa [ints] using hb5⟩
  have hPlt : w4.heap.size < w5.heap.size := by omega
  clear hs5 hb5 hwr4 hsa3 hsx3 hwn hnn hsn hon hwr hnr hsr hor
  by_cases hsl : sl = 65537
  · have q1 : ((sl : Int) != 65537) = false := by rw [bne_eq_false_iff_eq]; omega
    have HSL : Hid (sl = 65537) := hsl
    have s1 : (0 : Int) < (sl : Int) := by omega
    have s2 : (65536 : Int) < (sl : Int) := by omega
    clear hsl
    have cS : ∀ j, j < 65537 → w5.cell? ⟨S, j, none⟩ = some (.int .u32 (nth sts j)) := by
      intro j hj
      obtain ⟨b, off, e0, _, hc⟩ := hsr5 j (by rw [HSZ.out, HSL.out]; exact hj)
      cases e0
      rw [Nat.zero_add] at hc
      exact hc
    have cS0 := cS 0 (by omega)
    have cS1 := cS 65536 (by omega)
    have HCS : Hid (∀ j, j < 65537 → w5.cell? ⟨S, j, none⟩ = some (.int .u32 (nth sts j))) := cS
    clear cS
    have hs65 := hsb 65536
    by_cases hx0 : nth sts 0 = 0
    · have q2 : (nth sts 0 != 0) = false := by rw [bne_eq_false_iff_eq]; exact hx0
      have HX0 : Hid (nth sts 0 = 0) := hx0
      clear hx0
      by_cases hx1 : nth sts 65536 = (n : Int)
      · have q3 : (nth sts 65536 != (n : Int)) = false := by rw [bne_eq_false_iff_eq]; exact hx1
        have HX1 : Hid (nth sts 65536 = (n : Int)) := hx1
        clear hx1
        by_cases hx2 : nl = n
        · have q4 : ((nl : Int) != (n : Int)) = false := by rw [bne_eq_false_iff_eq]; omega
          have HX2 : Hid (nl = n) := hx2
          clear hx2
          obtain ⟨N, rfl⟩ : ∃ N, na' = some ⟨N, 0, none⟩ := by
            obtain ⟨b, off, e0, _, _⟩ := hnr5 0 (by rw [HNZ.out, HX2.out]; omega)
            obtain ⟨e1, _⟩ := hnx2 _ e0
            simp only at e1
            subst e1
            exact ⟨b, e0⟩
          have hnn0 : (nl : Int) ≤ (n : Int) ∧ (n : Int) ≤ (nl : Int) := by have := HX2.out; omega
          go_wp2
          clear cS0 cS1 hna2 hnx2 q3 hs65 q1 q2 q4 he
          obtain ⟨M, HMM⟩ : ∃ M : Nat, Hid (M = 65536) := ⟨65536, rfl⟩
          have m1 : (M : Int) ≤ 65536 := by have := HMM.out; omega
          have m2 : (65536 : Int) ≤ (M : Int) := by have := HMM.out; omega
          go_loopw [14] (fun i wr => ∃ k : Nat, k ≤ M ∧ i = .int .i64 k ∧ Mon sts k ∧ ∃ q, wr = w5.drewN q) (fun i _ => M - (intOf i).toNat)
          case atStart => exact ⟨0, Nat.zero_le _, rfl, fun j hj => absurd hj (Nat.not_lt_zero _), 0, rfl⟩
          case round =>
            obtain ⟨k, hk, rfl, hmon, q, rfl⟩ := hrel
            by_cases hlt : k < M
            · have c1 := HCS.out k (by omega)
              have c2 := HCS.out (k + 1) (by omega)
              have hd65 : decide ((k : Int) < 65536) = true := decide_eq_true (by omega)
              have j0 : (0 : Int) ≤ (k : Int) := by omega
              have j1 : (k : Int) < (sl : Int) := by omega
              have j2 : (0 : Int) ≤ (k : Int) + 1 := by omega
              have j3 : (k : Int) + 1 < (sl : Int) := by omega
              have j4 : ((k : Int) + 1).toNat = k + 1 := by omega
              have j5 : IntKind.i64.wrap ((k : Int) + 1) = (k : Int) + 1 := by rw [IntKind.wrap_i64]; omega
              by_cases hcmp : nth sts (k + 1) < nth sts k
              · have hc3 : decide (nth sts (k + 1) < nth sts k) = true := decide_eq_true hcmp
                go_wp2
                go_quiet (fail)
                go_wp2
                go_ret
                exact ⟨rfl, below_drewN (below_drewN B5 q) nq⟩
              · have hc3 : decide (nth sts (k + 1) < nth sts k) = false := decide_eq_false hcmp
                have hmon' := hmon.snoc (by omega)
                go_wp2
                go_quiet (fail)
                go_wp2
                go_roundw
                case rel => exact ⟨k + 1, by omega, by go_num, hmon', _, rfl⟩
                case measure => simp [intOf]; omega
            · have hk65 : k = 65536 := by have := HMM.out; omega
              have HM : Hid (Mon sts 65536) := by rw [hk65] at hmon; exact hmon
              have hk66 : (65536 : Int) ≤ (k : Int) := by omega
              have hbelq : Below w4.heap.size w4 (w5.drewN q) := below_drewN hbel5 q
              have HBq : ∃ xs : List Int, xs.length = n ∧ Blk (w5.drewN q) w4.heap.size 24 (ints .u32 xs) ∧ Fill sts nar xs (nth sts 0) := by
                obtain ⟨xs, e1, e2⟩ := HB5
                exact ⟨xs, e1, e2, by rw [HX0.out]; exact Fill.zero⟩
              have hd65 : decide ((k : Int) < 65536) = false := decide_eq_false (by omega)
              clear hmon hk65 HB5
              go_wp2
              clear hd65 hk66
              go_loopw [15] (fun i wr => ∃ h : Nat, h ≤ M ∧ i = .int .i64 h ∧ (∃ xs : List Int, xs.length = n ∧ Blk wr w4.heap.size 24 (ints .u32 xs) ∧ Fill sts nar xs (nth sts h)) ∧ Below w4.heap.size w4 wr) (fun i _ => M - (intOf i).toNat)
              case atStart => exact ⟨0, Nat.zero_le _, rfl, HBq, hbelq⟩
              case round =>
                clear HBq hbelq
                obtain ⟨h, hh, rfl, ⟨xs, hxl, hblk, hfill⟩, hbel⟩ := hrel
                have HXL : Hid (xs.length = n) := hxl
                clear hxl
                by_cases hlt : h < M
                · obtain ⟨s0, hs0⟩ := Int.eq_ofNat_of_zero_le (hsb h).1
                  obtain ⟨e0, he0⟩ := Int.eq_ofNat_of_zero_le (hsb (h + 1)).1
                  have hse : s0 ≤ e0 := by have := HM.out.le h (h + 1) (by omega) (by have := HMM.out; omega); omega
                  have hen : e0 ≤ n := by have := HM.out.le (h + 1) 65536 (by have := HMM.out; omega) (by omega); have := HX1.out; omega
                  have HF0 : Fill sts nar xs (s0 : Int) := by rw [← hs0]; exact hfill
                  have c1 : wr.cell? ⟨S, h, none⟩ = some (.int .u32 s0) := by
                    obtain ⟨b, off, q1, _, hc⟩ := (hsr4.below hbel) h (by rw [HSZ.out, HSL.out]; have := HMM.out; omega)
                    cases q1
                    rw [hs0, Nat.zero_add] at hc
                    exact hc
                  have c2 : ∀ wx, Below w4.heap.size w4 wx → wx.cell? ⟨S, h + 1, none⟩ = some (.int .u32 e0) := by
                    intro wx hwx
                    obtain ⟨b, off, q1, _, hc⟩ := (hsr4.below hwx) (h + 1) (by rw [HSZ.out, HSL.out]; have := HMM.out; omega)
                    cases q1
                    rw [he0, Nat.zero_add] at hc
                    exact hc
                  have HC2 : Hid (∀ wx, Below w4.heap.size w4 wx → wx.cell? ⟨S, h + 1, none⟩ = some (.int .u32 e0)) := c2
                  have HE0 : Hid (nth sts (h + 1) = (e0 : Int)) := he0
                  have HS0 : Hid (nth sts h = (s0 : Int)) := hs0
                  clear he0 hs0 c2 hfill
                  have hd65 : decide ((h : Int) < 65536) = true := decide_eq_true (by omega)
                  have j0 : (0 : Int) ≤ (h : Int) := by omega
                  have j1 : (h : Int) < (sl : Int) := by omega
                  have j2 : (0 : Int) ≤ (h : Int) + 1 := by omega
                  have j3 : (h : Int) + 1 < (sl : Int) := by omega
                  have j6 : (h : Int) ≤ 65535 := by omega
                  go_wp2
                  go_loopw [16] (fun i wr => ∃ ii : Nat, s0 ≤ ii ∧ ii ≤ e0 ∧ i = .int .u32 ii ∧ (∃ ys : List Int, ys.length = n ∧ Blk wr w4.heap.size 24 (ints .u32 ys) ∧ Fill sts nar ys (ii : Int)) ∧ Below w4.heap.size w4 wr) (fun i _ => e0 - (intOf i).toNat)
                  case atStart => exact ⟨s0, Nat.le_refl _, hse, rfl, ⟨xs, HXL.out, hblk, HF0⟩, hbel⟩
                  case round =>
                    clear HF0 hblk hbel c1
                    obtain ⟨ii, hi1, hi2, rfl, ⟨ys, hyl, hyb, hyf⟩, hbel⟩ := hrel
                    have HYL : Hid (ys.length = n) := hyl
                    clear hyl
                    have c2 := HC2.out _ hbel
                    by_cases hl2 : ii < e0
                    · have c3 : wr.cell? ⟨N, ii, none⟩ = some (.int .u16 (nth nar ii)) := by
                        obtain ⟨b, off, q1, _, hc⟩ := (hnr4.below hbel) ii (by rw [HNZ.out, HX2.out]; omega)
                        cases q1
                        rw [Nat.zero_add] at hc
                        exact hc
                      have hw : wr.cell? ⟨w4.heap.size, ii, none⟩ = some (.int .u32 (nth ys ii)) := by
                        rw [hyb.cell, ints_get _ _ _ (by rw [HYL.out]; omega)]
                      have hf := hyb.frozen ii
                      have hnbi := hnb ii
                      have horr := or32 (h : Int) (nth nar ii) (by omega) hnbi
                      have R1 : Hid (Blk (wr.setCell ⟨w4.heap.size, ii, none⟩ (.int .u32 (65536 * (h : Int) + nth nar ii))) w4.heap.size 24 (ints .u32 (ys.set ii (65536 * (h : Int) + nth nar ii)))) := by
                        unfold Hid
                        rw [← ints_set]
                        exact hyb.set ii _
                      have R2 : Hid (Below w4.heap.size w4 (wr.setCell ⟨w4.heap.size, ii, none⟩ (.int .u32 (65536 * (h : Int) + nth nar ii)))) := hbel.setCell (Nat.le_refl _) _
                      have R3 : Hid (Fill sts nar (ys.set ii (65536 * (h : Int) + nth nar ii)) ((ii + 1 : Nat) : Int)) := hyf.next HM.out (by have := HMM.out; omega) (by have := HS0.out; omega) (by have := HE0.out; omega) (by rw [HYL.out]; omega)
                      clear hyb hyf hbel
                      go_wp2
                      go_roundw
                      case rel => exact ⟨ii + 1, by omega, by omega, by go_num, ⟨_, by simpa using HYL.out, R1.out, R3.out⟩, R2.out⟩
                      case measure => simp [intOf]; omega
                    · have hie : ii = e0 := by omega
                      have R3 : Hid (Fill sts nar ys (nth sts (h + 1))) := by unfold Hid; rw [HE0.out, ← hie]; exact hyf
                      clear hie
                      go_wp2
                      go_roundw
                      case rel => exact ⟨h + 1, by omega, by go_num, ⟨ys, HYL.out, hyb, R3.out⟩, hbel⟩
                      case measure => simp [intOf]; omega
                · have hM2 : h = 65536 := by have := HMM.out; omega
                  have HFL : Hid (Fill sts nar xs (n : Int)) := by unfold Hid; rw [← HX1.out, ← hM2]; exact hfill
                  have hd65 : decide ((h : Int) < 65536) = false := decide_eq_false (by omega)
                  clear hM2 hfill
                  obtain ⟨w6, rfl⟩ : ∃ w6, w6 = wr := ⟨_, rfl⟩
                  have B6 : Below w.heap.size w w6 := B4.trans (hbel.mono B4.size)
                  have hsr6 := hsr4.below hbel
                  have hnr6 := hnr4.below hbel
                  have HFN : Hid (∀ q, Srt xs → Calls Trym.prog 7 #[.slice wa' wl wl, .slice (some ⟨N, 0, none⟩) nl nl, .slice (some ⟨S, 0, none⟩) sl sl, .slice oa' n n, .int .u32 p] (w6.drewN q) fun e w' => ∃ i : Nat, e = .returned (.int .i64 (wrapAt n i : Nat)) ∧ FG xs p i ∧ Below (w6.drewN q).heap.size (w6.drewN q) w') := fun q hs =>
                    narrow_call wa' wl N nl S sl oa' n nar sts xs p (w6.drewN q) HNZ.out HX2.out l4 (hnr6.below (below_drewN (Below.refl _ _) q)) hnb HSZ.out HSL.out (hsr6.below (below_drewN (Below.refl _ _) q)) hsb HM.out HX0.out HX1.out HXL.out HFL.out hp hs
                  clear hsr6 hnr6 hsr4 hnr4 hsr5 hnr5 hbel B4 B5 hbel5 hh hlt
                  go_wp2
                  clear hd65
                  go_loopw [17] (fun i wr => ∃ k : Nat, 1 ≤ k ∧ k ≤ n ∧ i = .int .i64 k ∧ (∀ j, j + 1 < k → nth xs j ≤ nth xs (j + 1)) ∧ ∃ q, wr = w6.drewN q) (fun i _ => n - (intOf i).toNat)
                  case atStart => exact ⟨1, Nat.le_refl _, by omega, rfl, fun j hj => by omega, 0, rfl⟩
                  case round =>
                    obtain ⟨k, hk1, hk, rfl, hadj, q, rfl⟩ := hrel
                    have HADJ : Hid (∀ j, j + 1 < k → nth xs j ≤ nth xs (j + 1)) := hadj
                    clear hadj
                    by_cases hlt : k < n
                    · have c1 : w6.cell? ⟨w4.heap.size, k, none⟩ = some (.int .u32 (nth xs k)) := by rw [hblk.cell, ints_get _ _ _ (by rw [HXL.out]; exact hlt)]
                      have c2 : w6.cell? ⟨w4.heap.size, k - 1, none⟩ = some (.int .u32 (nth xs (k - 1))) := by rw [hblk.cell, ints_get _ _ _ (by rw [HXL.out]; omega)]
                      have i0 : (0 : Int) ≤ (k : Int) := by omega
                      have i1 : (k : Int) < (n : Int) := by omega
                      have i2 : (0 : Int) ≤ (k : Int) - 1 := by omega
                      have i3 : (k : Int) - 1 < (n : Int) := by omega
                      have i4 : ((k : Int) - 1).toNat = k - 1 := by omega
                      have i5 : IntKind.i64.wrap ((k : Int) - 1) = (k : Int) - 1 := by rw [IntKind.wrap_i64]; omega
                      by_cases hcmp : nth xs k < nth xs (k - 1)
                      · have hc3 : decide (nth xs k < nth xs (k - 1)) = true := decide_eq_true hcmp
                        go_wp2
                        go_quiet (fail)
                        go_wp2
                        go_ret
                        exact ⟨rfl, below_drewN (below_drewN B6 q) nq⟩
                      · have hc3 : decide (nth xs k < nth xs (k - 1)) = false := decide_eq_false hcmp
                        have HADJ' : Hid (∀ j, j + 1 < k + 1 → nth xs j ≤ nth xs (j + 1)) := adj_snoc HADJ.out hk1 (by omega)
                        go_wp2
                        go_quiet (fail)
                        go_wp2
                        go_roundw
                        case rel => exact ⟨k + 1, by omega, by omega, by go_num, HADJ'.out, _, rfl⟩
                        case measure => simp [intOf]; omega
                    · obtain rfl : n = k := by omega
                      have hsrt : Srt xs := srt_of HXL.out HADJ.out
                      obtain ⟨w7, HW7⟩ : ∃ w7, Hid (w7 = w6.drewN q) := ⟨_, rfl⟩
                      have B7 : Below w.heap.size w (w6.drewN q) := below_drewN B6 q
                      clear HADJ hlt hk hk1
                      go_wp2
                      go_loop [18, 19] (fun x i => ∃ k : Nat, k ≤ n ∧ i = .int .i64 k ∧ x = .int .i64 0 ∧ ∀ j, j < k → nth xs j < p) (fun _ i => n - (intOf i).toNat)
                      case atStart => exact ⟨0, Nat.zero_le _, rfl, rfl, fun j hj => absurd hj (Nat.not_lt_zero _)⟩
                      case round =>
                        obtain ⟨k, hk, rfl, rfl, hbef⟩ := hrel
                        have HBEF : Hid (∀ j, j < k → nth xs j < p) := hbef
                        clear hbef
                        by_cases hlt : k < n
                        · have c1 : w6.cell? ⟨w4.heap.size, k, none⟩ = some (.int .u32 (nth xs k)) := by rw [hblk.cell, ints_get _ _ _ (by rw [HXL.out]; exact hlt)]
                          by_cases hcmp : p ≤ nth xs k
                          · have G : FG xs p k := ⟨by rw [HXL.out]; exact hk, HBEF.out, fun _ => hcmp⟩
                            go_wp2_with fail
                            refine (HFN.out q hsrt).mono ?_
                            rintro e w8 ⟨i, rfl, G', b8⟩
                            obtain rfl : i = k := G'.uniq G
                            rw [show wrapAt n i = i from if_neg (by omega)]
                            go_wp2
                            go_ret
                            exact ⟨by simp, B7.trans (b8.mono B7.size)⟩
                          · have hcmp' : nth xs k < p := by omega
                            go_wp2
                            go_round
                            case rel => exact ⟨k + 1, by omega, by go_num, rfl, bef_snoc HBEF.out hcmp'⟩
                            case measure => simp [intOf]; omega
                        · obtain rfl : n = k := by omega
                          have G : FG xs p n := ⟨by rw [HXL.out]; exact Nat.le_refl _, HBEF.out, fun h => by rw [HXL.out] at h; omega⟩
                          go_wp2_with fail
                          refine (HFN.out q hsrt).mono ?_
                          rintro e w8 ⟨i, rfl, G', b8⟩
                          obtain rfl : i = n := G'.uniq G
                          rw [show wrapAt i i = 0 from if_pos rfl]
                          go_wp2
                          go_ret
                          exact ⟨by simp, B7.trans (b8.mono B7.size)⟩
        · have q4 : ((nl : Int) != (n : Int)) = true := by rw [bne_iff_ne]; omega
          go_wp2
          go_ret
          exact ⟨rfl, B5⟩
      · have q3 : (nth sts 65536 != (n : Int)) = true := by rw [bne_iff_ne]; exact hx1
        go_wp2
        go_ret
        exact ⟨rfl, B5⟩
    · have q2 : (nth sts 0 != 0) = true := by rw [bne_iff_ne]; exact hx0
      go_wp2
      go_ret
      exact ⟨rfl, B5⟩
  · have q1 : ((sl : Int) != 65537) = true := by rw [bne_iff_ne]; omega
    go_wp2
    go_ret
    exact ⟨rfl, B5⟩

end Go.Proofs.Qxb6003016aMods

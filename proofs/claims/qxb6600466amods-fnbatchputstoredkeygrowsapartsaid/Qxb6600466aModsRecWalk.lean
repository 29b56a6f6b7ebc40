import Derived.Test.Qxb6600466aModsHolds
namespace Go.Proofs.Qxb6600466aMods
open Go.RowKit
set_option linter.unusedVariables false
set_option linter.unusedSimpArgs false
attribute [local go_sem ↓] Go.wp_at_zero Go.wp_at_succ

theorem Kept.cellOf {w w' : World} {G e r : Nat} {hs : List Value} {x : Value} (hk : Kept w w') (hb : Blk w G e hs) (h37 : e ≠ 37) (h44 : e ≠ 44) (h : w.cell? ⟨G, r, none⟩ = some x) : w'.cell? ⟨G, r, none⟩ = some x := by
  rw [(hk G e hs h37 h44 hb).cell, ← hb.cell]
  exact h

/-- As 'atRow', with the headers' block. -/
theorem NestV.atBlk {w : World} {lo hi : Nat} {ad : Option Addr} {zss : List (List Int)} (H : NestV w lo hi ad zss) (r : Nat) (hr : r < zss.length) :
    ∃ G hs a, ad = some ⟨G, 0, none⟩ ∧ Blk w G 22 hs ∧ w.cell? ⟨G, r, none⟩ = some (.slice a (lenOf zss r) (lenOf zss r)) ∧ Row .u8 w a (rowOf zss r) ∧ (a = none → lenOf zss r = 0) := by
  rcases H with ⟨_, rfl⟩ | ⟨G, h1, h2, h3, hs, h4, h5, h6⟩
  · exact absurd hr (Nat.not_lt_zero _)
  · obtain ⟨a, e1, e2, e3⟩ := (h6 r hr).row
    exact ⟨G, hs, a, h1, h4, by rw [h4.cell]; exact e1, e2, e3⟩

theorem BatchB.zero {w : World} {B base lo : Nat} {kss vss : List (List Int)} (h : Blk w B 37 [.slice none 0 0]) : BatchB w B base lo kss vss 0 :=
  ⟨_, [], h, World.ownsRow_nil _ _ _ _, fun j hj => absurd hj (Nat.not_lt_zero _)⟩

/-- What the loop of puts keeps. -/
structure Puts (w0 w2 wr : World) (B : Nat) (kss vss : List (List Int)) (i : Nat) : Prop where
  bat : BatchB wr B B B kss vss i
  kept : Kept w2 wr
  bel : Below w0.heap.size w0 wr
  siz : B ≤ wr.heap.size

theorem Puts.start {w0 w2 : World} {kss vss : List (List Int)} (h : Below w0.heap.size w0 w2) : Puts w0 w2 (w2.alloc (.cells #[.slice none 0 0] 37)) w2.heap.size kss vss 0 :=
  ⟨BatchB.zero (Blk.alloc w2 37 [.slice none 0 0]), Kept.of_below ((Below.refl _ _).alloc (Nat.le_refl _) _), h.alloc h.size _, by simp⟩

/-- The contract of Put, at the loop's state. -/
theorem Puts.put {w0 w2 wr : World} {B : Nat} {kss vss : List (List Int)} {k : Nat} {ak av : Option Addr} (H : Puts w0 w2 wr B kss vss k) (hB : w0.heap.size ≤ B) (hk : k ≤ 65536) (hsk : lenOf kss k ≤ 1048576) (hsv : lenOf vss k ≤ 1048576)
    (wq : World) (hq : Below wr.heap.size wr wq) (hq' : Below wq.heap.size wq wr) (hrk : Row .u8 wq ak (rowOf kss k)) (hrv : Row .u8 wq av (rowOf vss k)) :
    Calls Trym.prog 24 #[.pointer (some ⟨B, 0, none⟩), .slice ak (lenOf kss k) (lenOf kss k), .slice av (lenOf vss k) (lenOf vss k)] wq fun e w' => e = .returned (.tuple #[]) ∧ Puts w0 w2 w' B kss vss (k + 1) ∧ Kept wq w' := by
  obtain ⟨v, xs, hb, hown, hE⟩ := H.bat
  have kq := Kept.of_below hq
  have hbq : Blk wq B 37 [v] := hb.of_below hq hb.lt
  have hownq : wq.ownsRow B 44 2 v k xs := by
    refine hown.kept (row := none) ⟨hq.os, hq.tape, hq.output, hq.size, fun j hj _ => hq.block j hj⟩ ?_
    cases v.ownBlock <;> simp
  refine (put_any B k B v xs ak (lenOf kss k) _ (rowOf kss k) av (lenOf vss k) _ (rowOf vss k) wq hbq hownq (Nat.le_refl _) hk rfl hsk hrk rfl hsv hrv).mono ?_
  rintro e w' ⟨rfl, nv, kv, vv, h1, h2, h3, h4, h5⟩
  have hsz := H.siz
  refine ⟨rfl, ⟨BatchB.next hownq (fun j hj => ?_) h1 h2 h3 h4 (Nat.le_trans hsz hq.size), H.kept.trans (kq.trans h4), (H.bel.trans (hq.mono H.bel.size)).trans (h5.mono hB), ?_⟩, h4⟩
  · obtain ⟨a, b, e1, e2, e3⟩ := hE j hj
    exact ⟨a, b, e1, e2, e3.kept kq⟩
  · exact Nat.le_trans (Nat.le_trans hsz hq.size) h5.size

theorem below_drew_back (w : World) (q : Nat) : Below (w.drewN q).heap.size (w.drewN q) w := ⟨rfl, rfl, rfl, Nat.le_refl _, fun _ _ => rfl⟩

set_option maxRecDepth 100000 in
set_option maxHeartbeats 3200000 in
theorem rec_lt (ad : Option Addr) (n c : Nat) (kss : List (List Int)) (ad' : Option Addr) (m c' : Nat) (vss : List (List Int)) (w : World) (hz : kss.length = n) (hx : Nest w ad kss) (hnil : ad = none → n = 0) (hz' : vss.length = m) (hy : Nest w ad' vss) (hnil' : ad' = none → m = 0) (hn : n ≤ 65536) (hm : m ≤ 65536) (hmn : m < n) :
    Calls Trym.prog 8 #[.slice ad n c, .slice ad' m c'] w fun e w' => e = .returned (.bool true) ∧ Below w.heap.size w w' := by
  have hd : decide ((65536 : Int) < (n : Int)) = false := decide_eq_false (by omega)
  have hd2 : decide ((65536 : Int) < (m : Int)) = false := decide_eq_false (by omega)
  have hd4 : decide ((m : Int) < (n : Int)) = true := decide_eq_true (by omega)
  have HZ : Hid (kss.length = n) := hz
  have HY : Hid (vss.length = m) := hz'
  clear hz hz'
  go_enter Trym.func8, Trym.ntmps8
  go_wp2_with fail
  refine (zz21_any ad n c kss ad' m c' vss w HZ.out hx HY.out hy).mono ?_
  rintro e w' ⟨hg, rfl⟩
  rcases hg with rfl | ⟨rfl, hs1, hs2⟩
  · go_wp2
    go_ret
    exact ⟨rfl, Below.refl _ _⟩
  go_wp2_with fail
  refine (nestedSize_any ad n c kss w HZ.out hn hx).mono ?_
  rintro e w' ⟨t1, rfl, ht1, ht1', rfl⟩
  go_wp2_with fail
  refine (nestedSize_any ad' m c' vss w HY.out hm hy).mono ?_
  rintro e w' ⟨t2, rfl, ht2, ht2', rfl⟩
  by_cases htt : (1048576 : Int) < t1 + t2
  · go_wp2
    go_ret
    exact ⟨rfl, Below.refl _ _⟩
  have hd3 : decide ((1048576 : Int) < t1 + t2) = false := decide_eq_false htt
  go_wp2_with fail
  refine (cloneNested_any ad n c kss w HZ.out hn hx hs1 hnil).mono ?_
  rintro e w1 ⟨ka, rfl, hk1, hb1⟩
  go_wp2_with fail
  refine (cloneNested_any ad' m c' vss w1 HY.out hm (hy.below hb1) hs2 hnil').mono ?_
  rintro e w2 ⟨va, rfl, hv2, hb2⟩
  have hk2 := hk1.kept (Kept.of_below hb2)
  have B2 : Below w.heap.size w w2 := hb1.trans (hb2.mono hb1.size)
  clear hk1 hb1 hb2
  go_wp2
  go_loopw [7] (fun i wr => ∃ k : Nat, k ≤ m ∧ i = .int .i64 k ∧ Puts w w2 wr w2.heap.size kss vss k) (fun i _ => m - (intOf i).toNat)
  case atStart => exact ⟨0, Nat.zero_le _, rfl, Puts.start B2⟩
  case round =>
    obtain ⟨k, hk, rfl, H⟩ := hrel
    by_cases hlt : k < m
    · have hkw := hk2.kept H.kept
      have hvw := hv2.kept H.kept
      obtain ⟨Gk, hsk, ak, rfl, hbk, hck, hrk, _⟩ := hkw.atBlk k (by rw [HZ.out]; omega)
      obtain ⟨Gv, hsv, av, rfl, hbv, hcv, hrv, _⟩ := hvw.atBlk k (by rw [HY.out]; omega)
      have h1 : (0 : Int) ≤ (k : Int) := by omega
      have h2 : (k : Int) < (n : Int) := by omega
      have h3 : (k : Int) < (m : Int) := by omega
      have CP := H.put B2.size (by omega) (hs1 k (by omega)) (hs2 k (by omega)) wr.drew ((Below.refl _ _).drew) (below_drew_back wr 1) (hrk.below ((Below.refl _ _).drew)) (hrv.below ((Below.refl _ _).drew))
      clear H hkw hvw
      go_wp2
      go_region_held3 (fun w' => w'.cell? ⟨Gk, k, none⟩ = some (.slice ak (lenOf kss k) (lenOf kss k)) ∧ w'.cell? ⟨Gv, k, none⟩ = some (.slice av (lenOf vss k) (lenOf vss k)))
        (first | go_keep | exact ⟨Kept.cellOf hkp hbk (by decide) (by decide) hck, Kept.cellOf hkp hbv (by decide) (by decide) hcv⟩)
        ((go_at_call 24; refine CP.mono ?_; rintro e w' ⟨rfl, H', hkp⟩))
      go_wp2
      go_roundw
      case rel => exact ⟨k + 1, by omega, by go_num, H'⟩
      case measure => simp [intOf]; omega
    · obtain rfl : k = m := by omega
      have hkw := hk2.kept H.kept
      have hvw := hv2.kept H.kept
      have HB := H.bat
      have R := H.bel
      clear H hk2 hv2
      go_wp2_with fail
      refine (batchHolds_any w2.heap.size _ _ kss vss ka _ _ va _ _ k _ _ _ _ wr HB (by omega) hkw HZ.out (by omega) hvw HY.out (by omega) (fun r hr => hs1 r (by omega)) (fun r hr => hs2 r (by omega))).mono ?_
      rintro e w3 ⟨rfl, q, rfl⟩
      go_wp2
      go_ret
      exact ⟨rfl, below_drewN R q⟩

set_option maxRecDepth 100000 in
set_option maxHeartbeats 3200000 in
theorem rec_ge (ad : Option Addr) (n c : Nat) (kss : List (List Int)) (ad' : Option Addr) (m c' : Nat) (vss : List (List Int)) (w : World) (hz : kss.length = n) (hx : Nest w ad kss) (hnil : ad = none → n = 0) (hz' : vss.length = m) (hy : Nest w ad' vss) (hnil' : ad' = none → m = 0) (hn : n ≤ 65536) (hm : m ≤ 65536) (hmn : ¬ m < n) :
    Calls Trym.prog 8 #[.slice ad n c, .slice ad' m c'] w fun e w' => e = .returned (.bool true) ∧ Below w.heap.size w w' := by
  have hd : decide ((65536 : Int) < (n : Int)) = false := decide_eq_false (by omega)
  have hd2 : decide ((65536 : Int) < (m : Int)) = false := decide_eq_false (by omega)
  have hd4 : decide ((m : Int) < (n : Int)) = false := decide_eq_false (by omega)
  have HZ : Hid (kss.length = n) := hz
  have HY : Hid (vss.length = m) := hz'
  clear hz hz'
  go_enter Trym.func8, Trym.ntmps8
  go_wp2_with fail
  refine (zz21_any ad n c kss ad' m c' vss w HZ.out hx HY.out hy).mono ?_
  rintro e w' ⟨hg, rfl⟩
  rcases hg with rfl | ⟨rfl, hs1, hs2⟩
  · go_wp2
    go_ret
    exact ⟨rfl, Below.refl _ _⟩
  go_wp2_with fail
  refine (nestedSize_any ad n c kss w HZ.out hn hx).mono ?_
  rintro e w' ⟨t1, rfl, ht1, ht1', rfl⟩
  go_wp2_with fail
  refine (nestedSize_any ad' m c' vss w HY.out hm hy).mono ?_
  rintro e w' ⟨t2, rfl, ht2, ht2', rfl⟩
  by_cases htt : (1048576 : Int) < t1 + t2
  · go_wp2
    go_ret
    exact ⟨rfl, Below.refl _ _⟩
  have hd3 : decide ((1048576 : Int) < t1 + t2) = false := decide_eq_false htt
  go_wp2_with fail
  refine (cloneNested_any ad n c kss w HZ.out hn hx hs1 hnil).mono ?_
  rintro e w1 ⟨ka, rfl, hk1, hb1⟩
  go_wp2_with fail
  refine (cloneNested_any ad' m c' vss w1 HY.out hm (hy.below hb1) hs2 hnil').mono ?_
  rintro e w2 ⟨va, rfl, hv2, hb2⟩
  have hk2 := hk1.kept (Kept.of_below hb2)
  have B2 : Below w.heap.size w w2 := hb1.trans (hb2.mono hb1.size)
  clear hk1 hb1 hb2
  go_wp2
  go_loopw [7] (fun i wr => ∃ k : Nat, k ≤ n ∧ i = .int .i64 k ∧ Puts w w2 wr w2.heap.size kss vss k) (fun i _ => n - (intOf i).toNat)
  case atStart => exact ⟨0, Nat.zero_le _, rfl, Puts.start B2⟩
  case round =>
    obtain ⟨k, hk, rfl, H⟩ := hrel
    by_cases hlt : k < n
    · have hkw := hk2.kept H.kept
      have hvw := hv2.kept H.kept
      obtain ⟨Gk, hsk, ak, rfl, hbk, hck, hrk, _⟩ := hkw.atBlk k (by rw [HZ.out]; omega)
      obtain ⟨Gv, hsv, av, rfl, hbv, hcv, hrv, _⟩ := hvw.atBlk k (by rw [HY.out]; omega)
      have h1 : (0 : Int) ≤ (k : Int) := by omega
      have h2 : (k : Int) < (n : Int) := by omega
      have h3 : (k : Int) < (m : Int) := by omega
      have CP := H.put B2.size (by omega) (hs1 k (by omega)) (hs2 k (by omega)) wr.drew ((Below.refl _ _).drew) (below_drew_back wr 1) (hrk.below ((Below.refl _ _).drew)) (hrv.below ((Below.refl _ _).drew))
      clear H hkw hvw
      go_wp2
      go_region_held3 (fun w' => w'.cell? ⟨Gk, k, none⟩ = some (.slice ak (lenOf kss k) (lenOf kss k)) ∧ w'.cell? ⟨Gv, k, none⟩ = some (.slice av (lenOf vss k) (lenOf vss k)))
        (first | go_keep | exact ⟨Kept.cellOf hkp hbk (by decide) (by decide) hck, Kept.cellOf hkp hbv (by decide) (by decide) hcv⟩)
        ((go_at_call 24; refine CP.mono ?_; rintro e w' ⟨rfl, H', hkp⟩))
      go_wp2
      go_roundw
      case rel => exact ⟨k + 1, by omega, by go_num, H'⟩
      case measure => simp [intOf]; omega
    · obtain rfl : k = n := by omega
      have hkw := hk2.kept H.kept
      have hvw := hv2.kept H.kept
      have HB := H.bat
      have R := H.bel
      clear H hk2 hv2
      go_wp2_with fail
      refine (batchHolds_any w2.heap.size _ _ kss vss ka _ _ va _ _ k _ _ _ _ wr HB (by omega) hkw HZ.out (by omega) hvw HY.out (by omega) (fun r hr => hs1 r (by omega)) (fun r hr => hs2 r (by omega))).mono ?_
      rintro e w3 ⟨rfl, q, rfl⟩
      go_wp2
      go_ret
      exact ⟨rfl, below_drewN R q⟩

set_option maxHeartbeats 800000 in
theorem rec_big (ad : Option Addr) (n c : Nat) (kss : List (List Int)) (ad' : Option Addr) (m c' : Nat) (vss : List (List Int)) (w : World) (hz : kss.length = n) (hx : Nest w ad kss) (hz' : vss.length = m) (hy : Nest w ad' vss) (hbig : 65536 < n ∨ 65536 < m) :
    Calls Trym.prog 8 #[.slice ad n c, .slice ad' m c'] w fun e w' => e = .returned (.bool true) ∧ Below w.heap.size w w' := by
  have HZ : Hid (kss.length = n) := hz
  have HY : Hid (vss.length = m) := hz'
  clear hz hz'
  by_cases h1 : 65536 < n
  · have hd : decide ((65536 : Int) < (n : Int)) = true := decide_eq_true (by omega)
    clear hbig
    go_enter Trym.func8, Trym.ntmps8
    go_wp2_with fail
    refine (zz21_any ad n c kss ad' m c' vss w HZ.out hx HY.out hy).mono ?_
    rintro e w' ⟨hg, rfl⟩
    rcases hg with rfl | ⟨rfl, hs1, hs2⟩
    · go_wp2
      go_ret
      exact ⟨rfl, Below.refl _ _⟩
    · go_wp2
      go_ret
      exact ⟨rfl, Below.refl _ _⟩
  · have hd : decide ((65536 : Int) < (n : Int)) = false := decide_eq_false (by omega)
    have hd2 : decide ((65536 : Int) < (m : Int)) = true := decide_eq_true (by omega)
    clear hbig
    go_enter Trym.func8, Trym.ntmps8
    go_wp2_with fail
    refine (zz21_any ad n c kss ad' m c' vss w HZ.out hx HY.out hy).mono ?_
    rintro e w' ⟨hg, rfl⟩
    rcases hg with rfl | ⟨rfl, hs1, hs2⟩
    · go_wp2
      go_ret
      exact ⟨rfl, Below.refl _ _⟩
    · go_wp2
      go_ret
      exact ⟨rfl, Below.refl _ _⟩

theorem rec_all (ad : Option Addr) (n c : Nat) (kss : List (List Int)) (ad' : Option Addr) (m c' : Nat) (vss : List (List Int)) (w : World) (hz : kss.length = n) (hx : Nest w ad kss) (hnil : ad = none → n = 0) (hz' : vss.length = m) (hy : Nest w ad' vss) (hnil' : ad' = none → m = 0) :
    Calls Trym.prog 8 #[.slice ad n c, .slice ad' m c'] w fun e w' => e = .returned (.bool true) ∧ Below w.heap.size w w' := by
  by_cases hbig : 65536 < n ∨ 65536 < m
  · exact rec_big ad n c kss ad' m c' vss w hz hx hz' hy hbig
  · by_cases hmn : m < n
    · exact rec_lt ad n c kss ad' m c' vss w hz hx hnil hz' hy hnil' (by omega) (by omega) hmn
    · exact rec_ge ad n c kss ad' m c' vss w hz hx hnil hz' hy hnil' (by omega) (by omega) hmn

end Go.Proofs.Qxb6600466aMods

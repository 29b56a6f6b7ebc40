import Derived.Test.Qxb6600466aModsRecWalk
import Derived.ArgAppend
namespace Go.Proofs.Qxb6600466aMods
open Go.RowKit
set_option linter.unusedVariables false
set_option linter.unusedSimpArgs false
attribute [local go_sem ↓] Go.wp_at_zero Go.wp_at_succ

theorem BatchB.below {w w' : World} {B base lo : Nat} {kss vss : List (List Int)} {i : Nat} (H : BatchB w B base lo kss vss i) (h : Below w.heap.size w w') : BatchB w' B base lo kss vss i := by
  obtain ⟨v, xs, h1, h2, h3⟩ := H
  refine ⟨v, xs, h1.of_below h h1.lt, ?_, fun j hj => ?_⟩
  · refine h2.kept (row := none) ⟨h.os, h.tape, h.output, h.size, fun k hk _ => h.block k hk⟩ ?_
    cases v.ownBlock <;> simp
  · obtain ⟨a, b, e1, e2, e3⟩ := h3 j hj
    exact ⟨a, b, e1, e2, e3.kept (Kept.of_below h)⟩

theorem olds_after {wr : World} {p : Nat} {KS : List Value} (h : ∀ j u, KS[j]? = some u → wr.cell? ⟨p, j, none⟩ = some u) (q : Nat) (o : Obj) : ∀ b, some (⟨p, 0, none⟩ : Addr) = some b → ∀ j u, KS[j]? = some u → ((wr.drewN q).alloc o).cell? (b.add j) = some u := by
  intro b e j u hu
  cases e
  rw [Addr.add_lit, Nat.zero_add]
  have hc := h j u hu
  rw [World.cell?_of_block (w := wr.drewN q) (Below.heap_alloc (wr.drewN q) o p (World.block_lt_of_cell? wr _ hc))]
  exact hc

set_option maxRecDepth 100000 in
set_option maxHeartbeats 6400000 in
theorem grow_lt (ad : Option Addr) (n c : Nat) (kss : List (List Int)) (ad' : Option Addr) (m c' : Nat) (vss : List (List Int)) (w : World) (hz : kss.length = n) (hx : Nest w ad kss) (hnil : ad = none → n = 0) (hz' : vss.length = m) (hy : Nest w ad' vss) (hnil' : ad' = none → m = 0) (hn : n ≤ 65536) (hm : m ≤ 65536) (hmn : m < n) :
    Calls Trym.prog 10 #[.slice ad n c, .slice ad' m c'] w fun e w' => e = .returned (.bool true) ∧ Below w.heap.size w w' := by
  have hd : decide ((65536 : Int) < (n : Int)) = false := decide_eq_false (by omega)
  have hd2 : decide ((65536 : Int) < (m : Int)) = false := decide_eq_false (by omega)
  have hd4 : decide ((m : Int) < (n : Int)) = true := decide_eq_true (by omega)
  have HZ : Hid (kss.length = n) := hz
  have HY : Hid (vss.length = m) := hz'
  clear hz hz'
  obtain ⟨i5, hi5, hz0, hz1, hz2⟩ := info_parts Trym.info5
  go_enter Trym.func10, Trym.ntmps10
  go_wp2_with fail
  refine (zz27_any ad n c kss ad' m c' vss w HZ.out hx HY.out hy).mono ?_
  rintro e w' ⟨hg, rfl⟩
  rcases hg with rfl | ⟨rfl, hs1, hs2⟩
  · go_wp2
    go_ret
    exact ⟨rfl, Below.refl _ _⟩
  go_wp2_with fail
  refine (nestedSize_any ad n c kss w HZ.out hn hx).mono ?_
  rintro e w' ⟨t1, rfl, ht1, ht1', rfl⟩
  go_wp2_with fail
  refine (nestedSize_any ad' m c' vss w HY.out hm hy).mono ?_
  rintro e w' ⟨t2, rfl, ht2, ht2', rfl⟩
  by_cases htt : (1048576 : Int) < t1 + t2
  · go_wp2
    go_ret
    exact ⟨rfl, Below.refl _ _⟩
  have hd3 : decide ((1048576 : Int) < t1 + t2) = false := decide_eq_false htt
  go_wp2_with fail
  refine (cloneNested_any ad n c kss w HZ.out hn hx hs1 hnil).mono ?_
  rintro e w1 ⟨ka, rfl, hk1, hb1⟩
  go_wp2_with fail
  refine (cloneNested_any ad' m c' vss w1 HY.out hm (hy.below hb1) hs2 hnil').mono ?_
  rintro e w2 ⟨va, rfl, hv2, hb2⟩
  have hk2 := hk1.kept (Kept.of_below hb2)
  have B2 : Below w.heap.size w w2 := hb1.trans (hb2.mono hb1.size)
  clear hk1 hb1 hb2
  go_wp2
  go_loopw [7] (fun i wr => ∃ k : Nat, k ≤ m ∧ i = .int .i64 k ∧ Puts w w2 wr w2.heap.size kss vss k) (fun i _ => m - (intOf i).toNat)
  case atStart => exact ⟨0, Nat.zero_le _, rfl, Puts.start B2⟩
  case round =>
    obtain ⟨k, hk, rfl, H⟩ := hrel
    by_cases hlt : k < m
    · have hkw := hk2.kept H.kept
      have hvw := hv2.kept H.kept
      obtain ⟨Gk, hsk, ak, rfl, hbk, hck, hrk, _⟩ := hkw.atBlk k (by rw [HZ.out]; omega)
      obtain ⟨Gv, hsv, av, rfl, hbv, hcv, hrv, _⟩ := hvw.atBlk k (by rw [HY.out]; omega)
      have h1 : (0 : Int) ≤ (k : Int) := by omega
      have h2 : (k : Int) < (n : Int) := by omega
      have h3 : (k : Int) < (m : Int) := by omega
      have CP := H.put B2.size (by omega) (hs1 k (by omega)) (hs2 k (by omega)) wr.drew ((Below.refl _ _).drew) (below_drew_back wr 1) (hrk.below ((Below.refl _ _).drew)) (hrv.below ((Below.refl _ _).drew))
      clear H hkw hvw
      go_wp2
      go_region_held3 (fun w' => w'.cell? ⟨Gk, k, none⟩ = some (.slice ak (lenOf kss k) (lenOf kss k)) ∧ w'.cell? ⟨Gv, k, none⟩ = some (.slice av (lenOf vss k) (lenOf vss k)))
        (first | go_keep | exact ⟨Kept.cellOf hkp hbk (by decide) (by decide) hck, Kept.cellOf hkp hbv (by decide) (by decide) hcv⟩)
        ((go_at_call 24; refine CP.mono ?_; rintro e w' ⟨rfl, H', hkp⟩))
      go_wp2
      go_roundw
      case rel => exact ⟨k + 1, by omega, by go_num, H'⟩
      case measure => simp [intOf]; omega
    · obtain rfl : m = k := by omega
      obtain ⟨w6, rfl⟩ : ∃ w6, w6 = wr := ⟨_, rfl⟩
      have hk6 := hk2.kept H.kept
      have hv6 := hv2.kept H.kept
      have HB6 := H.bat
      have B6 := H.bel
      clear H hk2 hv2 hlt hk
      go_wp2
      go_loopw [8] (fun i wr => ∃ k : Nat, k ≤ m ∧ i = .int .i64 k ∧ Below w6.heap.size w6 wr) (fun i _ => m - (intOf i).toNat)
      case atStart => exact ⟨0, Nat.zero_le _, rfl, Below.refl _ _⟩
      case round =>
        obtain ⟨k, hk, rfl, BW⟩ := hrel
        have HBW := HB6.below BW
        by_cases hlt : k < m
        · obtain ⟨v, xs, hB, hown, hE⟩ := HBW
          obtain ⟨a, cap, rfl⟩ := own_form hown
          obtain ⟨g, rfl, hcells⟩ := own_cells hown (by omega)
          obtain ⟨kv, vv, ek, ev, hent⟩ := hE k hlt
          have c1 : wr.cell? ⟨g, k * 2, none⟩ = some kv := by rw [hcells _ (by omega), Nat.mul_comm]; exact ek
          have c2 : wr.cell? ⟨g, k * 2 + 1, none⟩ = some vv := by rw [hcells _ (by omega), Nat.mul_comm]; exact ev
          have hlk : (rowOf kss k).length ≤ 1048576 := hs1 k (by omega)
          have hlv : (rowOf vss k).length ≤ 1048576 := hs2 k (by omega)
          obtain ⟨p, hp1, hp2, rfl, hvv⟩ := hent
          obtain ⟨a2, hv2, hr2⟩ := Ent.valOf (⟨p, hp1, hp2, rfl, hvv⟩ : Ent wr _ (rowOf kss k) (rowOf vss k) _ vv)
          subst hv2
          have CH := batchChange_any w2.heap.size g m cap k _ _ wr hB hlt (by omega) c1 c2
          have hcK : ∀ j u, (u8s (rowOf kss k))[j]? = some u → wr.cell? ⟨p, j, none⟩ = some u := by
            intro j u hu
            have hj : j < (rowOf kss k).length := by
              have := (List.getElem?_eq_some_iff.1 hu).1
              simpa [u8s] using this
            have e : u8s (rowOf kss k ++ rowOf vss k) = u8s (rowOf kss k) ++ u8s (rowOf vss k) := by simp [u8s]
            rw [hp2.cell, e, List.getElem?_append_left (by rw [u8s_len]; exact hj)]
            exact hu
          have hKl : (u8s (rowOf kss k)).length = (rowOf kss k).length := u8s_len _
          have HKL : Hid ((u8s (rowOf kss k)).length = (rowOf kss k).length) := hKl
          clear hE hcells ek ev hvv hp2 hKl hown hB c1 c2
          have hr20 : (rowOf vss k).length ≠ 0 → ∃ b off z, a2 = some ⟨b, off, none⟩ ∧ wr.cell? ⟨b, off, none⟩ = some (.int .u8 z) := by
            intro h
            obtain ⟨b, off, e, _, hc⟩ := hr2 0 (by omega)
            exact ⟨b, off, _, e, hc⟩
          generalize (rowOf kss k).length = Lk at *
          generalize (rowOf vss k).length = Lv at *
          generalize u8s (rowOf kss k) = KS at *
          clear hr2
          by_cases hv0 : Lv = 0
          · subst hv0
            clear hr20
            go_wp2_with fail
            refine CH.mono ?_
            rintro e w7 ⟨rfl, q, rfl⟩
            go_wp2_with (at_builtin; refine wpList_append_grows _ rfl (.tmp 74) (.tmp 76) 22 rfl 5 i5 (.int .u8 0) 1 1 Trym.underlying22 hi5 hz0 hz1 hz2 rfl (by omega) _ Lk Lk KS rfl (fun e => by cases e) (by rw [HKL.out, Nat.mul_one]) (olds_after hcK q _) ⟨wr.heap.size, 0, none⟩ 1 1 [.int .u8 170] rfl rfl (World.news_of_block (cs := #[.int .u8 170]) (t := 5) (fr := (0, 0)) (heap_alloc_new (wr.drewN q) _)) (by simp [Value.oneCell']) (by omega) (by unfold maxLen; omega) (by omega) ?_)
            intro v8 w8 hown8 hg8
            obtain ⟨g8, cap8, rfl, _, _⟩ := hown8.form (by omega)
            have hc8 : w8.cell? ⟨g8, Lk, none⟩ = some (.int .u8 170) := by
              rw [hown8.cellAt Lk (by omega), List.getElem?_append_right (by have := HKL.out; omega)]
              have := HKL.out
              simp [this]
            have BW8 : Below w6.heap.size w6 w8 := ((below_drewN BW q).alloc BW.size _).grown hg8 (by have := BW.size; simp; omega) (fun k e => by cases e)
            clear hown8 hg8 BW hcK CH
            go_wp2
            go_roundw
            case rel => exact ⟨k + 1, by omega, by go_num, BW8⟩
            case measure => simp [intOf]; omega
          · obtain ⟨b, off, z, rfl, hcz⟩ := hr20 hv0
            have hpos : (0 : Int) < (Lv : Int) := by omega
            clear hr20
            go_wp2_with fail
            refine CH.mono ?_
            rintro e w7 ⟨rfl, q, rfl⟩
            go_wp2_with (at_builtin; refine wpList_append_grows _ rfl (.tmp 74) (.tmp 76) 22 rfl 5 i5 (.int .u8 0) 1 1 Trym.underlying22 hi5 hz0 hz1 hz2 rfl (by omega) _ Lk Lk KS rfl (fun e => by cases e) (by rw [HKL.out, Nat.mul_one]) (olds_after hcK q _) ⟨wr.heap.size, 0, none⟩ 1 1 [.int .u8 (bits .xor .u8 z 255)] rfl rfl (World.news_of_block (cs := #[.int .u8 (bits .xor .u8 z 255)]) (t := 5) (fr := (0, 0)) (heap_alloc_new (wr.drewN q) _)) (by simp [Value.oneCell']) (by omega) (by unfold maxLen; omega) (by omega) ?_)
            intro v8 w8 hown8 hg8
            obtain ⟨g8, cap8, rfl, _, _⟩ := hown8.form (by omega)
            have hc8 : w8.cell? ⟨g8, Lk, none⟩ = some (.int .u8 (bits .xor .u8 z 255)) := by
              rw [hown8.cellAt Lk (by omega), List.getElem?_append_right (by have := HKL.out; omega)]
              have := HKL.out
              simp [this]
            have BW8 : Below w6.heap.size w6 w8 := ((below_drewN BW q).alloc BW.size _).grown hg8 (by have := BW.size; simp; omega) (fun k e => by cases e)
            clear hown8 hg8 BW hcK CH
            go_wp2
            go_roundw
            case rel => exact ⟨k + 1, by omega, by go_num, BW8⟩
            case measure => simp [intOf]; omega
        · obtain rfl : m = k := by omega
          have hk7 := hk6.kept (Kept.of_below BW)
          have hv7 := hv6.kept (Kept.of_below BW)
          have R := B6.trans (BW.mono B6.size)
          clear hk6 hv6 HB6 B6 BW
          go_wp2_with fail
          refine (batchHolds_any w2.heap.size _ _ kss vss ka _ _ va _ _ m _ _ _ _ wr HBW (by omega) hk7 HZ.out (by omega) hv7 HY.out (by omega) (fun r hr => hs1 r (by omega)) (fun r hr => hs2 r (by omega))).mono ?_
          rintro e w8 ⟨rfl, q, rfl⟩
          go_wp2
          go_ret
          exact ⟨rfl, below_drewN R q⟩

set_option maxRecDepth 100000 in
set_option maxHeartbeats 6400000 in
theorem grow_ge (ad : Option Addr) (n c : Nat) (kss : List (List Int)) (ad' : Option Addr) (m c' : Nat) (vss : List (List Int)) (w : World) (hz : kss.length = n) (hx : Nest w ad kss) (hnil : ad = none → n = 0) (hz' : vss.length = m) (hy : Nest w ad' vss) (hnil' : ad' = none → m = 0) (hn : n ≤ 65536) (hm : m ≤ 65536) (hmn : ¬ m < n) :
    Calls Trym.prog 10 #[.slice ad n c, .slice ad' m c'] w fun e w' => e = .returned (.bool true) ∧ Below w.heap.size w w' := by
  have hd : decide ((65536 : Int) < (n : Int)) = false := decide_eq_false (by omega)
  have hd2 : decide ((65536 : Int) < (m : Int)) = false := decide_eq_false (by omega)
  have hd4 : decide ((m : Int) < (n : Int)) = false := decide_eq_false (by omega)
  have HZ : Hid (kss.length = n) := hz
  have HY : Hid (vss.length = m) := hz'
  clear hz hz'
  obtain ⟨i5, hi5, hz0, hz1, hz2⟩ := info_parts Trym.info5
  go_enter Trym.func10, Trym.ntmps10
  go_wp2_with fail
  refine (zz27_any ad n c kss ad' m c' vss w HZ.out hx HY.out hy).mono ?_
  rintro e w' ⟨hg, rfl⟩
  rcases hg with rfl | ⟨rfl, hs1, hs2⟩
  · go_wp2
    go_ret
    exact ⟨rfl, Below.refl _ _⟩
  go_wp2_with fail
  refine (nestedSize_any ad n c kss w HZ.out hn hx).mono ?_
  rintro e w' ⟨t1, rfl, ht1, ht1', rfl⟩
  go_wp2_with fail
  refine (nestedSize_any ad' m c' vss w HY.out hm hy).mono ?_
  rintro e w' ⟨t2, rfl, ht2, ht2', rfl⟩
  by_cases htt : (1048576 : Int) < t1 + t2
  · go_wp2
    go_ret
    exact ⟨rfl, Below.refl _ _⟩
  have hd3 : decide ((1048576 : Int) < t1 + t2) = false := decide_eq_false htt
  go_wp2_with fail
  refine (cloneNested_any ad n c kss w HZ.out hn hx hs1 hnil).mono ?_
  rintro e w1 ⟨ka, rfl, hk1, hb1⟩
  go_wp2_with fail
  refine (cloneNested_any ad' m c' vss w1 HY.out hm (hy.below hb1) hs2 hnil').mono ?_
  rintro e w2 ⟨va, rfl, hv2, hb2⟩
  have hk2 := hk1.kept (Kept.of_below hb2)
  have B2 : Below w.heap.size w w2 := hb1.trans (hb2.mono hb1.size)
  clear hk1 hb1 hb2
  go_wp2
  go_loopw [7] (fun i wr => ∃ k : Nat, k ≤ n ∧ i = .int .i64 k ∧ Puts w w2 wr w2.heap.size kss vss k) (fun i _ => n - (intOf i).toNat)
  case atStart => exact ⟨0, Nat.zero_le _, rfl, Puts.start B2⟩
  case round =>
    obtain ⟨k, hk, rfl, H⟩ := hrel
    by_cases hlt : k < n
    · have hkw := hk2.kept H.kept
      have hvw := hv2.kept H.kept
      obtain ⟨Gk, hsk, ak, rfl, hbk, hck, hrk, _⟩ := hkw.atBlk k (by rw [HZ.out]; omega)
      obtain ⟨Gv, hsv, av, rfl, hbv, hcv, hrv, _⟩ := hvw.atBlk k (by rw [HY.out]; omega)
      have h1 : (0 : Int) ≤ (k : Int) := by omega
      have h2 : (k : Int) < (n : Int) := by omega
      have h3 : (k : Int) < (m : Int) := by omega
      have CP := H.put B2.size (by omega) (hs1 k (by omega)) (hs2 k (by omega)) wr.drew ((Below.refl _ _).drew) (below_drew_back wr 1) (hrk.below ((Below.refl _ _).drew)) (hrv.below ((Below.refl _ _).drew))
      clear H hkw hvw
      go_wp2
      go_region_held3 (fun w' => w'.cell? ⟨Gk, k, none⟩ = some (.slice ak (lenOf kss k) (lenOf kss k)) ∧ w'.cell? ⟨Gv, k, none⟩ = some (.slice av (lenOf vss k) (lenOf vss k)))
        (first | go_keep | exact ⟨Kept.cellOf hkp hbk (by decide) (by decide) hck, Kept.cellOf hkp hbv (by decide) (by decide) hcv⟩)
        ((go_at_call 24; refine CP.mono ?_; rintro e w' ⟨rfl, H', hkp⟩))
      go_wp2
      go_roundw
      case rel => exact ⟨k + 1, by omega, by go_num, H'⟩
      case measure => simp [intOf]; omega
    · obtain rfl : n = k := by omega
      obtain ⟨w6, rfl⟩ : ∃ w6, w6 = wr := ⟨_, rfl⟩
      have hk6 := hk2.kept H.kept
      have hv6 := hv2.kept H.kept
      have HB6 := H.bat
      have B6 := H.bel
      clear H hk2 hv2 hlt hk
      go_wp2
      go_loopw [8] (fun i wr => ∃ k : Nat, k ≤ n ∧ i = .int .i64 k ∧ Below w6.heap.size w6 wr) (fun i _ => n - (intOf i).toNat)
      case atStart => exact ⟨0, Nat.zero_le _, rfl, Below.refl _ _⟩
      case round =>
        obtain ⟨k, hk, rfl, BW⟩ := hrel
        have HBW := HB6.below BW
        by_cases hlt : k < n
        · obtain ⟨v, xs, hB, hown, hE⟩ := HBW
          obtain ⟨a, cap, rfl⟩ := own_form hown
          obtain ⟨g, rfl, hcells⟩ := own_cells hown (by omega)
          obtain ⟨kv, vv, ek, ev, hent⟩ := hE k hlt
          have c1 : wr.cell? ⟨g, k * 2, none⟩ = some kv := by rw [hcells _ (by omega), Nat.mul_comm]; exact ek
          have c2 : wr.cell? ⟨g, k * 2 + 1, none⟩ = some vv := by rw [hcells _ (by omega), Nat.mul_comm]; exact ev
          have hlk : (rowOf kss k).length ≤ 1048576 := hs1 k (by omega)
          have hlv : (rowOf vss k).length ≤ 1048576 := hs2 k (by omega)
          obtain ⟨p, hp1, hp2, rfl, hvv⟩ := hent
          obtain ⟨a2, hv2, hr2⟩ := Ent.valOf (⟨p, hp1, hp2, rfl, hvv⟩ : Ent wr _ (rowOf kss k) (rowOf vss k) _ vv)
          subst hv2
          have CH := batchChange_any w2.heap.size g n cap k _ _ wr hB hlt (by omega) c1 c2
          have hcK : ∀ j u, (u8s (rowOf kss k))[j]? = some u → wr.cell? ⟨p, j, none⟩ = some u := by
            intro j u hu
            have hj : j < (rowOf kss k).length := by
              have := (List.getElem?_eq_some_iff.1 hu).1
              simpa [u8s] using this
            have e : u8s (rowOf kss k ++ rowOf vss k) = u8s (rowOf kss k) ++ u8s (rowOf vss k) := by simp [u8s]
            rw [hp2.cell, e, List.getElem?_append_left (by rw [u8s_len]; exact hj)]
            exact hu
          have hKl : (u8s (rowOf kss k)).length = (rowOf kss k).length := u8s_len _
          have HKL : Hid ((u8s (rowOf kss k)).length = (rowOf kss k).length) := hKl
          clear hE hcells ek ev hvv hp2 hKl hown hB c1 c2
          have hr20 : (rowOf vss k).length ≠ 0 → ∃ b off z, a2 = some ⟨b, off, none⟩ ∧ wr.cell? ⟨b, off, none⟩ = some (.int .u8 z) := by
            intro h
            obtain ⟨b, off, e, _, hc⟩ := hr2 0 (by omega)
            exact ⟨b, off, _, e, hc⟩
          generalize (rowOf kss k).length = Lk at *
          generalize (rowOf vss k).length = Lv at *
          generalize u8s (rowOf kss k) = KS at *
          clear hr2
          by_cases hv0 : Lv = 0
          · subst hv0
            clear hr20
            go_wp2_with fail
            refine CH.mono ?_
            rintro e w7 ⟨rfl, q, rfl⟩
            go_wp2_with (at_builtin; refine wpList_append_grows _ rfl (.tmp 74) (.tmp 76) 22 rfl 5 i5 (.int .u8 0) 1 1 Trym.underlying22 hi5 hz0 hz1 hz2 rfl (by omega) _ Lk Lk KS rfl (fun e => by cases e) (by rw [HKL.out, Nat.mul_one]) (olds_after hcK q _) ⟨wr.heap.size, 0, none⟩ 1 1 [.int .u8 170] rfl rfl (World.news_of_block (cs := #[.int .u8 170]) (t := 5) (fr := (0, 0)) (heap_alloc_new (wr.drewN q) _)) (by simp [Value.oneCell']) (by omega) (by unfold maxLen; omega) (by omega) ?_)
            intro v8 w8 hown8 hg8
            obtain ⟨g8, cap8, rfl, _, _⟩ := hown8.form (by omega)
            have hc8 : w8.cell? ⟨g8, Lk, none⟩ = some (.int .u8 170) := by
              rw [hown8.cellAt Lk (by omega), List.getElem?_append_right (by have := HKL.out; omega)]
              have := HKL.out
              simp [this]
            have BW8 : Below w6.heap.size w6 w8 := ((below_drewN BW q).alloc BW.size _).grown hg8 (by have := BW.size; simp; omega) (fun k e => by cases e)
            clear hown8 hg8 BW hcK CH
            go_wp2
            go_roundw
            case rel => exact ⟨k + 1, by omega, by go_num, BW8⟩
            case measure => simp [intOf]; omega
          · obtain ⟨b, off, z, rfl, hcz⟩ := hr20 hv0
            have hpos : (0 : Int) < (Lv : Int) := by omega
            clear hr20
            go_wp2_with fail
            refine CH.mono ?_
            rintro e w7 ⟨rfl, q, rfl⟩
            go_wp2_with (at_builtin; refine wpList_append_grows _ rfl (.tmp 74) (.tmp 76) 22 rfl 5 i5 (.int .u8 0) 1 1 Trym.underlying22 hi5 hz0 hz1 hz2 rfl (by omega) _ Lk Lk KS rfl (fun e => by cases e) (by rw [HKL.out, Nat.mul_one]) (olds_after hcK q _) ⟨wr.heap.size, 0, none⟩ 1 1 [.int .u8 (bits .xor .u8 z 255)] rfl rfl (World.news_of_block (cs := #[.int .u8 (bits .xor .u8 z 255)]) (t := 5) (fr := (0, 0)) (heap_alloc_new (wr.drewN q) _)) (by simp [Value.oneCell']) (by omega) (by unfold maxLen; omega) (by omega) ?_)
            intro v8 w8 hown8 hg8
            obtain ⟨g8, cap8, rfl, _, _⟩ := hown8.form (by omega)
            have hc8 : w8.cell? ⟨g8, Lk, none⟩ = some (.int .u8 (bits .xor .u8 z 255)) := by
              rw [hown8.cellAt Lk (by omega), List.getElem?_append_right (by have := HKL.out; omega)]
              have := HKL.out
              simp [this]
            have BW8 : Below w6.heap.size w6 w8 := ((below_drewN BW q).alloc BW.size _).grown hg8 (by have := BW.size; simp; omega) (fun k e => by cases e)
            clear hown8 hg8 BW hcK CH
            go_wp2
            go_roundw
            case rel => exact ⟨k + 1, by omega, by go_num, BW8⟩
            case measure => simp [intOf]; omega
        · obtain rfl : n = k := by omega
          have hk7 := hk6.kept (Kept.of_below BW)
          have hv7 := hv6.kept (Kept.of_below BW)
          have R := B6.trans (BW.mono B6.size)
          clear hk6 hv6 HB6 B6 BW
          go_wp2_with fail
          refine (batchHolds_any w2.heap.size _ _ kss vss ka _ _ va _ _ n _ _ _ _ wr HBW (by omega) hk7 HZ.out (by omega) hv7 HY.out (by omega) (fun r hr => hs1 r (by omega)) (fun r hr => hs2 r (by omega))).mono ?_
          rintro e w8 ⟨rfl, q, rfl⟩
          go_wp2
          go_ret
          exact ⟨rfl, below_drewN R q⟩

set_option maxHeartbeats 800000 in
theorem grow_big (ad : Option Addr) (n c : Nat) (kss : List (List Int)) (ad' : Option Addr) (m c' : Nat) (vss : List (List Int)) (w : World) (hz : kss.length = n) (hx : Nest w ad kss) (hz' : vss.length = m) (hy : Nest w ad' vss) (hbig : 65536 < n ∨ 65536 < m) :
    Calls Trym.prog 10 #[.slice ad n c, .slice ad' m c'] w fun e w' => e = .returned (.bool true) ∧ Below w.heap.size w w' := by
  have HZ : Hid (kss.length = n) := hz
  have HY : Hid (vss.length = m) := hz'
  clear hz hz'
  by_cases h1 : 65536 < n
  · have hd : decide ((65536 : Int) < (n : Int)) = true := decide_eq_true (by omega)
    clear hbig
    go_enter Trym.func10, Trym.ntmps10
    go_wp2_with fail
    refine (zz27_any ad n c kss ad' m c' vss w HZ.out hx HY.out hy).mono ?_
    rintro e w' ⟨hg, rfl⟩
    rcases hg with rfl | ⟨rfl, hs1, hs2⟩
    · go_wp2
      go_ret
      exact ⟨rfl, Below.refl _ _⟩
    · go_wp2
      go_ret
      exact ⟨rfl, Below.refl _ _⟩
  · have hd : decide ((65536 : Int) < (n : Int)) = false := decide_eq_false (by omega)
    have hd2 : decide ((65536 : Int) < (m : Int)) = true := decide_eq_true (by omega)
    clear hbig
    go_enter Trym.func10, Trym.ntmps10
    go_wp2_with fail
    refine (zz27_any ad n c kss ad' m c' vss w HZ.out hx HY.out hy).mono ?_
    rintro e w' ⟨hg, rfl⟩
    rcases hg with rfl | ⟨rfl, hs1, hs2⟩
    · go_wp2
      go_ret
      exact ⟨rfl, Below.refl _ _⟩
    · go_wp2
      go_ret
      exact ⟨rfl, Below.refl _ _⟩

theorem grow_all (ad : Option Addr) (n c : Nat) (kss : List (List Int)) (ad' : Option Addr) (m c' : Nat) (vss : List (List Int)) (w : World) (hz : kss.length = n) (hx : Nest w ad kss) (hnil : ad = none → n = 0) (hz' : vss.length = m) (hy : Nest w ad' vss) (hnil' : ad' = none → m = 0) :
    Calls Trym.prog 10 #[.slice ad n c, .slice ad' m c'] w fun e w' => e = .returned (.bool true) ∧ Below w.heap.size w w' := by
  by_cases hbig : 65536 < n ∨ 65536 < m
  · exact grow_big ad n c kss ad' m c' vss w hz hx hz' hy hbig
  · by_cases hmn : m < n
    · exact grow_lt ad n c kss ad' m c' vss w hz hx hnil hz' hy hnil' (by omega) (by omega) hmn
    · exact grow_ge ad n c kss ad' m c' vss w hz hx hnil hz' hy hnil' (by omega) (by omega) hmn

end Go.Proofs.Qxb6600466aMods

import Derived.Test.Qxb6600466aModsAreLaw
import Derived.Test.Qxb6600466aModsSpecWalk
namespace Go.Proofs.Qxb6600466aMods
open Go.RowKit
set_option linter.unusedVariables false
set_option linter.unusedSimpArgs false
attribute [local go_sem ↓] Go.wp_at_zero Go.wp_at_succ

theorem zz19_no (ad : Option Addr) (n c : Nat) (f : Int) (ad' : Option Addr) (m c' : Nat) (whole : Bool) (w : World) (hn : n ≤ maxLen) (hm : m ≤ maxLen) (h : ¬ n + m ≤ 1048576) : Calls Trym.prog 19 #[.slice ad n c, .int .i64 f, .slice ad' m c', .bool whole] w fun e w' => e = .returned (.bool false) ∧ w = w' := by
  unfold maxLen at hn hm
  by_cases h1 : n ≤ 1048576
  · have hd : decide ((1048576 : Int) < (n : Int)) = false := decide_eq_false (by omega)
    by_cases h2 : m ≤ 1048576
    · have hd2 : decide ((1048576 : Int) < (m : Int)) = false := decide_eq_false (by omega)
      go_enter Trym.func19, Trym.ntmps19
      go_wp2
      go_ret
      exact ⟨rfl, rfl⟩
    · go_enter Trym.func19, Trym.ntmps19
      go_wp2
      go_ret
      exact ⟨rfl, rfl⟩
  · go_enter Trym.func19, Trym.ntmps19
    go_wp2
    go_ret
    exact ⟨rfl, rfl⟩
theorem zz19_yes (ad : Option Addr) (n c : Nat) (f : Int) (ad' : Option Addr) (m c' : Nat) (whole : Bool) (w : World) (h : n + m ≤ 1048576) : Calls Trym.prog 19 #[.slice ad n c, .int .i64 f, .slice ad' m c', .bool whole] w fun e w' => e = .returned (.bool true) ∧ w = w' := by
  go_enter Trym.func19, Trym.ntmps19
  go_wp2
  go_ret
  exact ⟨rfl, rfl⟩

theorem areSpec_big (ad : Option Addr) (n c : Nat) (f : Int) (ad' : Option Addr) (m c' : Nat) (whole : Bool) (w : World) (hn : n ≤ maxLen) (hm : m ≤ maxLen) (h : ¬ n + m ≤ 1048576) :
    Calls Trym.prog 6 #[.slice ad n c, .int .i64 f, .slice ad' m c', .bool whole] w fun e w' => e = .returned (.bool true) ∧ Below w.heap.size w w' := by
  go_enter Trym.func6, Trym.ntmps6
  go_wp2_with (go_at_call 19; refine (zz19_no _ _ _ _ _ _ _ _ _ hn hm h).mono ?_; rintro e w' ⟨rfl, rfl⟩)
  go_ret
  exact ⟨rfl, Below.refl _ _⟩

theorem areSpec_half (ad : Option Addr) (n c : Nat) (f : Int) (ad' : Option Addr) (m c' : Nat) (whole : Bool) (w : World) (h : n + m ≤ 1048576) (h2 : 524288 < n ∨ 524288 < m) :
    Calls Trym.prog 6 #[.slice ad n c, .int .i64 f, .slice ad' m c', .bool whole] w fun e w' => e = .returned (.bool true) ∧ Below w.heap.size w w' := by
  by_cases h3 : 524288 < n
  · have hd : decide ((524288 : Int) < (n : Int)) = true := decide_eq_true (by omega)
    clear h2
    go_enter Trym.func6, Trym.ntmps6
    go_wp2_with (go_at_call 19; refine (zz19_yes _ _ _ _ _ _ _ _ _ h).mono ?_; rintro e w' ⟨rfl, rfl⟩)
    go_ret
    exact ⟨rfl, Below.refl _ _⟩
  · have hd : decide ((524288 : Int) < (n : Int)) = false := decide_eq_false (by omega)
    have hd2 : decide ((524288 : Int) < (m : Int)) = true := decide_eq_true (by omega)
    clear h2
    go_enter Trym.func6, Trym.ntmps6
    go_wp2_with (go_at_call 19; refine (zz19_yes _ _ _ _ _ _ _ _ _ h).mono ?_; rintro e w' ⟨rfl, rfl⟩)
    go_ret
    exact ⟨rfl, Below.refl _ _⟩

theorem areSpec_neg (ad : Option Addr) (n c : Nat) (f : Int) (ad' : Option Addr) (m c' : Nat) (whole : Bool) (w : World) (hn : n ≤ 524288) (hm : m ≤ 524288) (hf : f < 0) :
    Calls Trym.prog 6 #[.slice ad n c, .int .i64 f, .slice ad' m c', .bool whole] w fun e w' => e = .returned (.bool true) ∧ Below w.heap.size w w' := by
  have hd : decide ((524288 : Int) < (n : Int)) = false := decide_eq_false (by omega)
  have hd2 : decide ((524288 : Int) < (m : Int)) = false := decide_eq_false (by omega)
  go_enter Trym.func6, Trym.ntmps6
  go_wp2_with (go_at_call 19; refine (zz19_yes _ _ _ _ _ _ _ _ _ (by omega)).mono ?_; rintro e w' ⟨rfl, rfl⟩)
  go_ret
  exact ⟨rfl, Below.refl _ _⟩

/-- append of two elements of one cell, where there is room, onto a block that is known whole: as one step of a region that draws. -/
theorem step_append_blk2 {P : Program} {ops : Array Oper} {o : Oper} {a : Act} {w : World} {K : Act → World → Prop} {Q : Exit → Act → World → Prop} {E : Prop}
    (hg : o.guard = none) (s x : Operand) (t : TypeId) (hop : o.op = Op.call { callee := Callee.builtin Builtin.append, args := #[s, x], argTypes := #[t, t] })
    (e : TypeId) (i : TypeInfo) (h1 : P.underlying t = some (.slice e)) (h2 : P.info? e = some i) (h4 : i.size = 1)
    (g n cap : Nat) (cs : List Value) (hs : a.eval s = .slice (some ⟨g, 0, none⟩) n cap) (m : Nat) (v u : Value) (hx : a.eval x = .slice (some ⟨m, 0, none⟩) 2 2) (hv : Blk w m e [v, u]) (h1c : v.oneCell' = true) (h2c : u.oneCell' = true)
    (hb : Blk w g e cs) (hroom : n + 2 ≤ cap) (hlen : n + 1 < cs.length)
    (hK : K (a.put o.dst (.slice (some ⟨g, 0, none⟩) (n + 2) cap)) ((w.setCell ⟨g, n, none⟩ v).setCell ⟨g, n + 1, none⟩ u)) :
    if Region.wanted o (yielded ops a.tmps) = true then Oper.wp P o a w K Q else E := by
  refine step_append_room hg s x t hop e i 1 h1 h2 h4 g 0 n cap hs ⟨m, 0, none⟩ 2 2 [v, u] hx rfl ?_ (by simp [h1c, h2c]) hroom ?_ ?_
  · intro j y hu
    rw [Addr.add_lit, hv.cell, Nat.zero_add]
    exact hu
  · intro j hj
    have h0 : j < 2 := by simpa using hj
    rw [hb.cell, hb.frozen]
    simp
    omega
  · have : w.setCells g (0 + n * 1) [v, u] = (w.setCell ⟨g, n, none⟩ v).setCell ⟨g, n + 1, none⟩ u := by simp [World.setCells]
    rw [this]
    exact hK

/-- What the loop that unpacks the key keeps. -/
structure Unp (G n : Nat) (key : List Int) (w2 wr : World) (k : Nat) : Prop where
  blk : Blk wr G 5 (u8s (knTo key k) ++ List.replicate (2 * n - 2 * k) (Value.int .u8 0))
  bel : Below G w2 wr

theorem set_next2 (xs : List Int) (r k : Nat) (x y : Int) (hk : xs.length = k) (hr : 1 < r) : ((u8s xs ++ List.replicate r (Value.int .u8 0)).set k (.int .u8 x)).set (k + 1) (.int .u8 y) = u8s (xs ++ [x, y]) ++ List.replicate (r - 2) (.int .u8 0) := by
  rw [set_next xs r k x hk (by omega), set_next (xs ++ [x]) (r - 1) (k + 1) y (by simp [hk]) (by omega), List.append_assoc]
  rfl

theorem Unp.next {G n : Nat} {key : List Int} {w2 wr : World} {k q : Nat} {o : Obj} (H : Unp G n key w2 wr k) (hk : k < n) (hq : q = 2 * k) :
    Unp G n key w2 (((wr.alloc o).drew.setCell ⟨G, q, none⟩ (.int .u8 (nth key k / 16))).setCell ⟨G, q + 1, none⟩ (.int .u8 (nth key k % 16))) (k + 1) := by
  subst hq
  refine ⟨?_, ?_⟩
  · have hb : Blk (wr.alloc o).drew G 5 _ := H.blk.later o
    have := (hb.set (2 * k) (.int .u8 (nth key k / 16))).set (2 * k + 1) (.int .u8 (nth key k % 16))
    rw [set_next2 _ _ _ _ _ (knTo_len key k) (by omega)] at this
    rw [knTo_succ, show 2 * n - 2 * (k + 1) = 2 * n - 2 * k - 2 by omega]
    exact this
  · exact ((((H.bel.alloc (Nat.le_of_lt H.blk.lt) o).drew).setCell (Nat.le_refl _) _).setCell (Nat.le_refl _) _)

theorem cell_setfar2 {w : World} {o : Obj} {g j j' : Nat} {u u' : Value} {b off : Nat} {v : Value} (h : w.cell? ⟨b, off, none⟩ = some v) (hne : b ≠ g) : (((w.alloc o).drew.setCell ⟨g, j, none⟩ u).setCell ⟨g, j', none⟩ u').cell? ⟨b, off, none⟩ = some v := by
  rw [World.cell?_of_block (w := (w.alloc o).drew.setCell ⟨g, j, none⟩ u) (Below.heap_setCell _ _ _ _ (by exact hne))]
  exact cell_setfar h hne

set_option maxRecDepth 100000 in
set_option maxHeartbeats 3200000 in
theorem areSpec_main (ad : Option Addr) (n c : Nat) (key : List Int) (f : Nat) (ad' : Option Addr) (m c' : Nat) (path : List Int) (whole : Bool) (w : World) (hz : key.length = n) (hn : n ≤ 524288) (hrow : Row .u8 w ad key) (hb : Byt key) (hnil : ad = none → n = 0)
    (hz' : path.length = m) (hm : m ≤ 524288) (hrow' : Row .u8 w ad' path) (hnil' : ad' = none → m = 0) (hf : f ≤ 9223372036854775807) :
    Calls Trym.prog 6 #[.slice ad n c, .int .i64 f, .slice ad' m c', .bool whole] w fun e w' => e = .returned (.bool true) ∧ Below w.heap.size w w' := by
  have hd : decide ((524288 : Int) < (n : Int)) = false := decide_eq_false (by omega)
  have hd2 : decide ((524288 : Int) < (m : Int)) = false := decide_eq_false (by omega)
  have hd3 : decide ((f : Int) < 0) = false := decide_eq_false (by omega)
  obtain ⟨i0, hi, hz0, hz1, hz2⟩ := info_parts Trym.info5
  have HZ : Hid (key.length = n) := hz
  have HY : Hid (path.length = m) := hz'
  clear hz hz'
  go_enter Trym.func6, Trym.ntmps6
  go_wp2_with (go_at_call 19; refine (zz19_yes _ _ _ _ _ _ _ _ _ (by omega)).mono ?_; rintro e w' ⟨rfl, rfl⟩)
  refine (cloneBytes_any ad n c key w HZ.out (by omega) hrow hnil).mono ?_
  rintro e w1 ⟨ad1, rfl, hrow1, hbel1, hat1⟩
  go_wp2_with fail
  refine (cloneBytes_any ad' m c' path w1 HY.out (by omega) (hrow'.below hbel1) hnil').mono ?_
  rintro e w2 ⟨ad2, rfl, hrow2, hbel2, hat2⟩
  have hrow1' := hrow1.below hbel2
  go_wp2_with fail
  refine (ZZNibblesAre_any ad1 n n key ad2 m m path f whole w2 HZ.out (by omega) hrow1' hb HY.out (by omega) hrow2 hf).mono ?_
  rintro e w' ⟨rfl, rfl⟩
  go_wp2_with (at_make; refine wpList_make_blk _ rfl _ _ 22 rfl 5 i0 (.int .u8 0) 1 Trym.underlying22 hi hz0 hz1 hz2 rfl _ _ _ _ 0 (2 * n) rfl rfl rfl (by omega) (by omega) (by omega) (by unfold maxLen; omega) ?_)
  intro w3 hb3 hbel3 hs3
  have HU : Unp w2.heap.size n key w2 w3 0 := ⟨by simpa [knTo, u8s] using hb3, hbel3⟩
  clear hs3 hb3 hbel3
  go_wp2
  go_loopw [10, 11] (fun v i wr => ∃ k q : Nat, k ≤ n ∧ Hid (q = 2 * k) ∧ i = .int .i64 k ∧ v = .slice (some ⟨w2.heap.size, 0, none⟩) q (2 * n) ∧ Unp w2.heap.size n key w2 wr k) (fun _ i _ => n - (intOf i).toNat)
  case atStart => exact ⟨0, 0, Nat.zero_le _, rfl, rfl, rfl, HU⟩
  case round =>
    clear HU
    obtain ⟨k, q, hk, HQ, rfl, rfl, H⟩ := hrel
    by_cases hlt : k < n
    · obtain ⟨b, off, rfl, hlb, hc⟩ := (hrow1'.below H.bel) k (by rw [HZ.out]; exact hlt)
      have hne : b ≠ w2.heap.size := Nat.ne_of_lt (Nat.lt_of_lt_of_le (hat1 b off rfl).2 hbel2.size)
      have h1 : (0 : Int) ≤ (k : Int) := by omega
      have h2 : (k : Int) < (n : Int) := by omega
      have hb0 := hb k
      go_wp2
      go_region_held3 (fun w' => w'.cell? ⟨b, off + k, none⟩ = some (.int .u8 (nth key k))) (first | go_keep | exact cell_setfar2 hc hne)
        ((refine step_append_blk2 (by rfl) _ _ _ (by rfl) 5 i0 Trym.underlying22 hi hz1 w2.heap.size q (2 * n) (u8s (knTo key k) ++ List.replicate (2 * n - 2 * k) (Value.int .u8 0)) (by rfl) wr.heap.size _ _ (by rfl) (heap_alloc_new wr _) (by rfl) (by rfl) (H.blk.later _) (by have := HQ.out; omega) (by have := HQ.out; simp [u8s, knTo_len]; omega) ?_))
      rw [show IntKind.u8.wrap ((nth key k).tdiv 16) = nth key k / 16 by rw [Int.tdiv_eq_ediv_of_nonneg hb0.1, IntKind.wrap_u8]; omega, show (nth key k).tmod 16 = nth key k % 16 by rw [Int.tmod_eq_emod_of_nonneg hb0.1]]
      have H' := H.next (o := .cells #[.int .u8 (nth key k / 16), .int .u8 (nth key k % 16)] 5) hlt HQ.out
      clear H hc
      go_wp2
      go_roundw
      case rel => exact ⟨k + 1, q + 2, by omega, by unfold Hid; have := HQ.out; omega, by go_num, rfl, H'⟩
      case measure => simp [intOf]; omega
    · have hkn : k = n := by omega
      subst hkn
      obtain rfl : q = 2 * k := HQ.out
      have hbk : Blk wr w2.heap.size 5 (u8s (knTo key k) ++ []) := by
        have := H.blk
        rw [show 2 * k - 2 * k = 0 by omega] at this
        exact this
      have hrk := hbk.row
      have hrp := hrow2.below H.bel
      have R := (hbel1.trans (hbel2.mono hbel1.size)).trans (H.bel.mono (Nat.le_trans hbel1.size hbel2.size))
      have HK : Hid ((knTo key k).length = 2 * k) := knTo_len key k
      clear H hbk hbel1 hbel2 hrow1 hrow1' hrow hrow' hrow2 hat1 hat2 hlt HQ
      by_cases hfk : f ≤ 2 * k
      · by_cases hf2 : f < 2 * k
        · cases whole
          · by_cases hmk : m ≤ 2 * k - f
            · have HF := are_begin HZ.out HY.out hfk hmk
              rw [HF]
              go_wp2_with fail
              refine (eqBytes_any _ m _ (((knTo key k).drop f).take m) ad2 m m path wr (by rw [List.length_take, List.length_drop, HK.out]; omega) (by unfold maxLen; omega) ((hrk.dropOf (by intro _; simp)).takeOf) HY.out (by unfold maxLen; omega) hrp).mono ?_
              rintro e w4 ⟨rfl, q, rfl⟩
              go_wp2
              go_ret
              exact ⟨by simp, below_drewN R q⟩
            · have HF := areB_short (key := key) (path := path) (f := f) (whole := false) (by rw [HZ.out, HY.out]; omega)
              rw [HF]
              go_wp2
              go_ret
              exact ⟨rfl, R⟩
          · have HF := are_whole (path := path) HZ.out hfk
            rw [HF]
            go_wp2_with fail
            refine (eqBytes_any _ (2 * k - f) _ ((knTo key k).drop f) ad2 m m path wr (by rw [List.length_drop, HK.out]) (by unfold maxLen; omega) (hrk.dropOf (by intro _; simp)) HY.out (by unfold maxLen; omega) hrp).mono ?_
            rintro e w4 ⟨rfl, q, rfl⟩
            go_wp2
            go_ret
            exact ⟨by simp, below_drewN R q⟩
        · obtain rfl : f = 2 * k := by omega
          cases whole
          · by_cases hmk : m ≤ 2 * k - 2 * k
            · have HF := are_begin HZ.out HY.out hfk hmk
              rw [HF]
              obtain rfl : m = 0 := by omega
              go_wp2_with fail
              refine (eqBytes_any _ 0 _ [] ad2 0 0 path wr rfl (by unfold maxLen; omega) (fun j hj => absurd hj (Nat.not_lt_zero _)) HY.out (by unfold maxLen; omega) hrp).mono ?_
              rintro e w4 ⟨rfl, q, rfl⟩
              go_wp2
              go_ret
              exact ⟨by simp, below_drewN R q⟩
            · have HF := areB_short (key := key) (path := path) (f := 2 * k) (whole := false) (by rw [HZ.out, HY.out]; omega)
              rw [HF]
              have hm0 : 0 < m := by omega
              go_wp2
              go_ret
              exact ⟨rfl, R⟩
          · have HF := are_whole (path := path) HZ.out hfk
            rw [HF]
            go_wp2_with fail
            refine (eqBytes_any _ _ _ ((knTo key k).drop (2 * k)) ad2 m m path wr (by rw [List.length_drop, HK.out]; omega) (by unfold maxLen; omega) (hrk.dropOf (by intro h; rw [HK.out] at h; omega)) HY.out (by unfold maxLen; omega) hrp).mono ?_
            rintro e w4 ⟨rfl, q, rfl⟩
            go_wp2
            go_ret
            exact ⟨by simp, below_drewN R q⟩
      · have HF := areB_short (key := key) (path := path) (f := f) (whole := whole) (by rw [HZ.out, HY.out]; omega)
        rw [HF]
        go_wp2
        go_ret
        exact ⟨rfl, R⟩

theorem areSpec_all (ad : Option Addr) (n c : Nat) (key : List Int) (f : Int) (ad' : Option Addr) (m c' : Nat) (path : List Int) (whole : Bool) (w : World) (hz : key.length = n) (hn : n ≤ maxLen) (hrow : Row .u8 w ad key) (hb : Byt key) (hnil : ad = none → n = 0)
    (hz' : path.length = m) (hm : m ≤ maxLen) (hrow' : Row .u8 w ad' path) (hnil' : ad' = none → m = 0) (hf : f ≤ 9223372036854775807) :
    Calls Trym.prog 6 #[.slice ad n c, .int .i64 f, .slice ad' m c', .bool whole] w fun e w' => e = .returned (.bool true) ∧ Below w.heap.size w w' := by
  by_cases h1 : n + m ≤ 1048576
  · by_cases h2 : 524288 < n ∨ 524288 < m
    · exact areSpec_half ad n c f ad' m c' whole w h1 h2
    · by_cases h3 : f < 0
      · exact areSpec_neg ad n c f ad' m c' whole w (by omega) (by omega) h3
      · obtain ⟨q, rfl⟩ := Int.eq_ofNat_of_zero_le (Int.not_lt.1 h3)
        exact areSpec_main ad n c key q ad' m c' path whole w hz (by omega) hrow hb hnil hz' (by omega) hrow' hnil' (by omega)
  · exact areSpec_big ad n c f ad' m c' whole w hn hm h1

end Go.Proofs.Qxb6600466aMods

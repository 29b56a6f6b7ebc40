import Derived.Test.Qxb6600466aModsSpec
import Derived.Test.Qxb6600466aModsHexLaw
namespace Go.Proofs.Qxb6600466aMods
open Go.RowKit
set_option linter.unusedVariables false
set_option linter.unusedSimpArgs false

theorem zz15_no (ad : Option Addr) (n c : Nat) (f : Bool) (ad' : Option Addr) (m c' : Nat) (g : Bool) (w : World) (hn : n ≤ maxLen) (hm : m ≤ maxLen) (h : ¬ n + m ≤ 1048576) : Calls Trym.prog 15 #[.slice ad n c, .bool f, .slice ad' m c', .bool g] w fun e w' => e = .returned (.bool false) ∧ w = w' := by
  unfold maxLen at hn hm
  by_cases h1 : n ≤ 1048576
  · have hd : decide ((1048576 : Int) < (n : Int)) = false := decide_eq_false (by omega)
    by_cases h2 : m ≤ 1048576
    · have hd2 : decide ((1048576 : Int) < (m : Int)) = false := decide_eq_false (by omega)
      go_enter Trym.func15, Trym.ntmps15
      go_wp2
      go_ret
      exact ⟨rfl, rfl⟩
    · go_enter Trym.func15, Trym.ntmps15
      go_wp2
      go_ret
      exact ⟨rfl, rfl⟩
  · go_enter Trym.func15, Trym.ntmps15
    go_wp2
    go_ret
    exact ⟨rfl, rfl⟩
theorem zz15_yes (ad : Option Addr) (n c : Nat) (f : Bool) (ad' : Option Addr) (m c' : Nat) (g : Bool) (w : World) (h : n + m ≤ 1048576) : Calls Trym.prog 15 #[.slice ad n c, .bool f, .slice ad' m c', .bool g] w fun e w' => e = .returned (.bool true) ∧ w = w' := by
  go_enter Trym.func15, Trym.ntmps15
  go_wp2
  go_ret
  exact ⟨rfl, rfl⟩

theorem inj_big (ad : Option Addr) (n c : Nat) (f : Bool) (ad' : Option Addr) (m c' : Nat) (g : Bool) (w : World) (hn : n ≤ maxLen) (hm : m ≤ maxLen) (h : ¬ n + m ≤ 1048576) :
    Calls Trym.prog 4 #[.slice ad n c, .bool f, .slice ad' m c', .bool g] w fun e w' => e = .returned (.bool true) ∧ Below w.heap.size w w' := by
  go_enter Trym.func4, Trym.ntmps4
  go_wp2_with (go_at_call 15; refine (zz15_no _ _ _ _ _ _ _ _ _ hn hm h).mono ?_; rintro e w' ⟨rfl, rfl⟩)
  go_ret
  exact ⟨rfl, Below.refl _ _⟩

theorem inj_half (ad : Option Addr) (n c : Nat) (f : Bool) (ad' : Option Addr) (m c' : Nat) (g : Bool) (w : World) (h : n + m ≤ 1048576) (h2 : 524288 < n ∨ 524288 < m) :
    Calls Trym.prog 4 #[.slice ad n c, .bool f, .slice ad' m c', .bool g] w fun e w' => e = .returned (.bool true) ∧ Below w.heap.size w w' := by
  by_cases h3 : 524288 < n
  · have hd : decide ((524288 : Int) < (n : Int)) = true := decide_eq_true (by omega)
    clear h2
    go_enter Trym.func4, Trym.ntmps4
    go_wp2_with (go_at_call 15; refine (zz15_yes _ _ _ _ _ _ _ _ _ h).mono ?_; rintro e w' ⟨rfl, rfl⟩)
    go_ret
    exact ⟨rfl, Below.refl _ _⟩
  · have hd : decide ((524288 : Int) < (n : Int)) = false := decide_eq_false (by omega)
    have hd2 : decide ((524288 : Int) < (m : Int)) = true := decide_eq_true (by omega)
    clear h2
    go_enter Trym.func4, Trym.ntmps4
    go_wp2_with (go_at_call 15; refine (zz15_yes _ _ _ _ _ _ _ _ _ h).mono ?_; rintro e w' ⟨rfl, rfl⟩)
    go_ret
    exact ⟨rfl, Below.refl _ _⟩

theorem inj_notA (ad : Option Addr) (n c : Nat) (xs : List Int) (f : Bool) (ad' : Option Addr) (m c' : Nat) (g : Bool) (w : World) (hz : xs.length = n) (hn : n ≤ 524288) (hm : m ≤ 524288) (hrow : Row .u8 w ad xs) (hall : allB xs = false) :
    Calls Trym.prog 4 #[.slice ad n c, .bool f, .slice ad' m c', .bool g] w fun e w' => e = .returned (.bool true) ∧ Below w.heap.size w w' := by
  have hd : decide ((524288 : Int) < (n : Int)) = false := decide_eq_false (by omega)
  have hd2 : decide ((524288 : Int) < (m : Int)) = false := decide_eq_false (by omega)
  have HZ : Hid (xs.length = n) := hz
  clear hz
  go_enter Trym.func4, Trym.ntmps4
  go_wp2_with (go_at_call 15; refine (zz15_yes _ _ _ _ _ _ _ _ _ (by omega)).mono ?_; rintro e w' ⟨rfl, rfl⟩)
  refine (allNibbles_any ad n c xs w HZ.out (by unfold maxLen; omega) hrow).mono ?_
  rintro e w' ⟨rfl, rfl⟩
  go_wp2
  go_ret
  exact ⟨rfl, Below.refl _ _⟩

theorem inj_notB (ad : Option Addr) (n c : Nat) (xs : List Int) (f : Bool) (ad' : Option Addr) (m c' : Nat) (ys : List Int) (g : Bool) (w : World) (hz : xs.length = n) (hz' : ys.length = m) (hn : n ≤ 524288) (hm : m ≤ 524288) (hrow : Row .u8 w ad xs) (hall : allB xs = true) (hrow' : Row .u8 w ad' ys) (hall' : allB ys = false) :
    Calls Trym.prog 4 #[.slice ad n c, .bool f, .slice ad' m c', .bool g] w fun e w' => e = .returned (.bool true) ∧ Below w.heap.size w w' := by
  have hd : decide ((524288 : Int) < (n : Int)) = false := decide_eq_false (by omega)
  have hd2 : decide ((524288 : Int) < (m : Int)) = false := decide_eq_false (by omega)
  have HZ : Hid (xs.length = n) := hz
  have HY : Hid (ys.length = m) := hz'
  clear hz hz'
  go_enter Trym.func4, Trym.ntmps4
  go_wp2_with (go_at_call 15; refine (zz15_yes _ _ _ _ _ _ _ _ _ (by omega)).mono ?_; rintro e w' ⟨rfl, rfl⟩)
  refine (allNibbles_any ad n c xs w HZ.out (by unfold maxLen; omega) hrow).mono ?_
  rintro e w' ⟨rfl, rfl⟩
  go_wp2_with fail
  refine (allNibbles_any ad' m c' ys w HY.out (by unfold maxLen; omega) hrow').mono ?_
  rintro e w' ⟨rfl, rfl⟩
  go_wp2
  go_ret
  exact ⟨rfl, Below.refl _ _⟩

theorem inj_same (ad : Option Addr) (n c : Nat) (xs : List Int) (f : Bool) (ad' : Option Addr) (m c' : Nat) (ys : List Int) (w : World) (hz : xs.length = n) (hz' : ys.length = m) (hn : n ≤ 524288) (hm : m ≤ 524288) (hrow : Row .u8 w ad xs) (hall : allB xs = true) (hrow' : Row .u8 w ad' ys) (hall' : allB ys = true)
    (heq : eqB xs ys = true) :
    Calls Trym.prog 4 #[.slice ad n c, .bool f, .slice ad' m c', .bool f] w fun e w' => e = .returned (.bool true) ∧ Below w.heap.size w w' := by
  have hd : decide ((524288 : Int) < (n : Int)) = false := decide_eq_false (by omega)
  have hd2 : decide ((524288 : Int) < (m : Int)) = false := decide_eq_false (by omega)
  have HZ : Hid (xs.length = n) := hz
  have HY : Hid (ys.length = m) := hz'
  clear hz hz'
  cases f
  all_goals
    go_enter Trym.func4, Trym.ntmps4
    go_wp2_with (go_at_call 15; refine (zz15_yes _ _ _ _ _ _ _ _ _ (by omega)).mono ?_; rintro e w' ⟨rfl, rfl⟩)
    refine (allNibbles_any ad n c xs w HZ.out (by unfold maxLen; omega) hrow).mono ?_
    rintro e w' ⟨rfl, rfl⟩
    go_wp2_with fail
    refine (allNibbles_any ad' m c' ys w HY.out (by unfold maxLen; omega) hrow').mono ?_
    rintro e w' ⟨rfl, rfl⟩
    go_wp2_with fail
    refine (eqBytes_any ad n c xs ad' m c' ys w HZ.out (by unfold maxLen; omega) hrow HY.out (by unfold maxLen; omega) hrow').mono ?_
    rintro e w' ⟨rfl, q, rfl⟩
    go_wp2
    go_ret
    exact ⟨rfl, below_drewN (Below.refl _ _) q⟩

/-- The second half: both are cloned and encoded, and the encodings are compared. -/
theorem hexP_ne {xs ys : List Int} {f g : Bool} (hx : Nib xs) (hy : Nib ys) (h : ¬ (f = g ∧ xs = ys)) : eqB (hexP xs f) (hexP ys g) = false := by
  unfold eqB
  simp only [decide_eq_false_iff_not]
  intro e
  exact h (hexP_inj hx hy e)

theorem Blk.row0 {w : World} {b : Nat} {zs : List Int} (h : Blk w b 5 (u8s zs)) : Row .u8 w (some ⟨b, 0, none⟩) zs := Blk.row (tl := []) (by simpa using h)

set_option maxRecDepth 100000 in
set_option maxHeartbeats 1600000 in
theorem inj_eq (ad : Option Addr) (n c : Nat) (xs : List Int) (f : Bool) (ad' : Option Addr) (m c' : Nat) (ys : List Int) (w : World) (hz : xs.length = n) (hz' : ys.length = m) (hn : n ≤ 524288) (hm : m ≤ 524288) (hrow : Row .u8 w ad xs) (hnib : Nib xs) (hall : allB xs = true) (hnil : ad = none → n = 0) (hrow' : Row .u8 w ad' ys) (hnib' : Nib ys) (hall' : allB ys = true) (hnil' : ad' = none → m = 0)
    (heq : eqB xs ys = false) (hne : eqB (hexP xs f) (hexP ys f) = false) :
    Calls Trym.prog 4 #[.slice ad n c, .bool f, .slice ad' m c', .bool f] w fun e w' => e = .returned (.bool true) ∧ Below w.heap.size w w' := by
  have hd : decide ((524288 : Int) < (n : Int)) = false := decide_eq_false (by omega)
  have hd2 : decide ((524288 : Int) < (m : Int)) = false := decide_eq_false (by omega)
  have HZ : Hid (xs.length = n) := hz
  have HY : Hid (ys.length = m) := hz'
  have HNE : Hid (eqB (hexP xs f) (hexP ys f) = false) := hne
  clear hz hz' hne
  cases f
  all_goals
    go_enter Trym.func4, Trym.ntmps4
    go_wp2_with (go_at_call 15; refine (zz15_yes _ _ _ _ _ _ _ _ _ (by omega)).mono ?_; rintro e w' ⟨rfl, rfl⟩)
    refine (allNibbles_any ad n c xs w HZ.out (by unfold maxLen; omega) hrow).mono ?_
    rintro e w' ⟨rfl, rfl⟩
    go_wp2_with fail
    refine (allNibbles_any ad' m c' ys w HY.out (by unfold maxLen; omega) hrow').mono ?_
    rintro e w' ⟨rfl, rfl⟩
    go_wp2_with fail
    refine (eqBytes_any ad n c xs ad' m c' ys w HZ.out (by unfold maxLen; omega) hrow HY.out (by unfold maxLen; omega) hrow').mono ?_
    rintro e w' ⟨rfl, q, rfl⟩
    go_wp2_with fail
    refine (cloneBytes_any ad n c xs _ HZ.out (by omega) (hrow.below (below_drewN (Below.refl _ _) q)) hnil).mono ?_
    rintro e w1 ⟨ad1, rfl, hrow1, hbel1, hat1⟩
    have B1 : Below w.heap.size w w1 := (below_drewN (Below.refl _ _) q).trans hbel1
    go_wp2_with fail
    refine (cloneBytes_any ad' m c' ys w1 HY.out (by omega) (hrow'.below B1) hnil').mono ?_
    rintro e w2 ⟨ad2, rfl, hrow2, hbel2, hat2⟩
    have B2 : Below w.heap.size w w2 := B1.trans (hbel2.mono B1.size)
    have hrow1' := hrow1.below hbel2
    go_wp2_with fail
    refine (ZZHexPrefix_any ad1 n xs _ w2 HZ.out (by omega) hrow1' hnib (fun b off e => Nat.lt_of_lt_of_le (hat1 b off e).2 hbel2.size)).mono ?_
    rintro e w3 ⟨rfl, hblk3, hbel3⟩
    have B3 : Below w.heap.size w w3 := B2.trans (hbel3.mono B2.size)
    have hrow2' := hrow2.below hbel3
    go_wp2_with fail
    refine (ZZHexPrefix_any ad2 m ys _ w3 HY.out (by omega) hrow2' hnib' (fun b off e => Nat.lt_of_lt_of_le (hat2 b off e).2 hbel3.size)).mono ?_
    rintro e w4 ⟨rfl, hblk4, hbel4⟩
    have B4 : Below w.heap.size w w4 := B3.trans (hbel4.mono B3.size)
    have hblk3' := hblk3.of_below hbel4 hblk3.lt
    go_wp2_with fail
    refine (eqBytes_any _ (1 + n / 2) _ _ _ (1 + m / 2) _ _ w4 ((hexP_len _ _).trans (by rw [HZ.out])) (by unfold maxLen; omega) hblk3'.row0 ((hexP_len _ _).trans (by rw [HY.out])) (by unfold maxLen; omega) hblk4.row0).mono ?_
    rintro e w5 ⟨rfl, q5, rfl⟩
    rw [HNE.out]
    go_wp2
    go_ret
    exact ⟨rfl, below_drewN B4 q5⟩

set_option maxRecDepth 100000 in
set_option maxHeartbeats 1600000 in
theorem inj_ne (ad : Option Addr) (n c : Nat) (xs : List Int) (f g : Bool) (ad' : Option Addr) (m c' : Nat) (ys : List Int) (w : World) (hz : xs.length = n) (hz' : ys.length = m) (hn : n ≤ 524288) (hm : m ≤ 524288) (hrow : Row .u8 w ad xs) (hnib : Nib xs) (hall : allB xs = true) (hnil : ad = none → n = 0) (hrow' : Row .u8 w ad' ys) (hnib' : Nib ys) (hall' : allB ys = true) (hnil' : ad' = none → m = 0)
    (hfg : f ≠ g) (hne : eqB (hexP xs f) (hexP ys g) = false) :
    Calls Trym.prog 4 #[.slice ad n c, .bool f, .slice ad' m c', .bool g] w fun e w' => e = .returned (.bool true) ∧ Below w.heap.size w w' := by
  have hd : decide ((524288 : Int) < (n : Int)) = false := decide_eq_false (by omega)
  have hd2 : decide ((524288 : Int) < (m : Int)) = false := decide_eq_false (by omega)
  have HZ : Hid (xs.length = n) := hz
  have HY : Hid (ys.length = m) := hz'
  have HNE : Hid (eqB (hexP xs f) (hexP ys g) = false) := hne
  clear hz hz' hne
  cases f
  all_goals cases g
  all_goals try exact absurd rfl hfg
  all_goals
    clear hfg
    go_enter Trym.func4, Trym.ntmps4
    go_wp2_with (go_at_call 15; refine (zz15_yes _ _ _ _ _ _ _ _ _ (by omega)).mono ?_; rintro e w' ⟨rfl, rfl⟩)
    refine (allNibbles_any ad n c xs w HZ.out (by unfold maxLen; omega) hrow).mono ?_
    rintro e w' ⟨rfl, rfl⟩
    go_wp2_with fail
    refine (allNibbles_any ad' m c' ys w HY.out (by unfold maxLen; omega) hrow').mono ?_
    rintro e w' ⟨rfl, rfl⟩
    go_wp2_with fail
    refine (cloneBytes_any ad n c xs w HZ.out (by omega) hrow hnil).mono ?_
    rintro e w1 ⟨ad1, rfl, hrow1, hbel1, hat1⟩
    have B1 : Below w.heap.size w w1 := hbel1
    go_wp2_with fail
    refine (cloneBytes_any ad' m c' ys w1 HY.out (by omega) (hrow'.below B1) hnil').mono ?_
    rintro e w2 ⟨ad2, rfl, hrow2, hbel2, hat2⟩
    have B2 : Below w.heap.size w w2 := B1.trans (hbel2.mono B1.size)
    have hrow1' := hrow1.below hbel2
    go_wp2_with fail
    refine (ZZHexPrefix_any ad1 n xs _ w2 HZ.out (by omega) hrow1' hnib (fun b off e => Nat.lt_of_lt_of_le (hat1 b off e).2 hbel2.size)).mono ?_
    rintro e w3 ⟨rfl, hblk3, hbel3⟩
    have B3 : Below w.heap.size w w3 := B2.trans (hbel3.mono B2.size)
    have hrow2' := hrow2.below hbel3
    go_wp2_with fail
    refine (ZZHexPrefix_any ad2 m ys _ w3 HY.out (by omega) hrow2' hnib' (fun b off e => Nat.lt_of_lt_of_le (hat2 b off e).2 hbel3.size)).mono ?_
    rintro e w4 ⟨rfl, hblk4, hbel4⟩
    have B4 : Below w.heap.size w w4 := B3.trans (hbel4.mono B3.size)
    have hblk3' := hblk3.of_below hbel4 hblk3.lt
    go_wp2_with fail
    refine (eqBytes_any _ (1 + n / 2) _ _ _ (1 + m / 2) _ _ w4 ((hexP_len _ _).trans (by rw [HZ.out])) (by unfold maxLen; omega) hblk3'.row0 ((hexP_len _ _).trans (by rw [HY.out])) (by unfold maxLen; omega) hblk4.row0).mono ?_
    rintro e w5 ⟨rfl, q5, rfl⟩
    rw [HNE.out]
    go_wp2
    go_ret
    exact ⟨rfl, below_drewN B4 q5⟩

theorem inj_all (ad : Option Addr) (n c : Nat) (xs : List Int) (f : Bool) (ad' : Option Addr) (m c' : Nat) (ys : List Int) (g : Bool) (w : World) (hz : xs.length = n) (hz' : ys.length = m) (hn : n ≤ maxLen) (hm : m ≤ maxLen) (hrow : Row .u8 w ad xs) (hb : Byt xs) (hnil : ad = none → n = 0) (hrow' : Row .u8 w ad' ys) (hb' : Byt ys) (hnil' : ad' = none → m = 0) :
    Calls Trym.prog 4 #[.slice ad n c, .bool f, .slice ad' m c', .bool g] w fun e w' => e = .returned (.bool true) ∧ Below w.heap.size w w' := by
  by_cases h1 : n + m ≤ 1048576
  · by_cases h2 : 524288 < n ∨ 524288 < m
    · exact inj_half ad n c f ad' m c' g w h1 h2
    · have hn' : n ≤ 524288 := by omega
      have hm' : m ≤ 524288 := by omega
      cases ha : allB xs
      · exact inj_notA ad n c xs f ad' m c' g w hz hn' hm' hrow ha
      · cases hc : allB ys
        · exact inj_notB ad n c xs f ad' m c' ys g w hz hz' hn' hm' hrow ha hrow' hc
        · have nx := nib_of hb ha
          have ny := nib_of hb' hc
          by_cases hfg : f = g
          · subst hfg
            cases he : eqB xs ys
            · refine inj_eq ad n c xs f ad' m c' ys w hz hz' hn' hm' hrow nx ha hnil hrow' ny hc hnil' he (hexP_ne nx ny ?_)
              rintro ⟨_, e⟩
              subst e
              simp [eqB] at he
            · exact inj_same ad n c xs f ad' m c' ys w hz hz' hn' hm' hrow ha hrow' hc he
          · exact inj_ne ad n c xs f g ad' m c' ys w hz hz' hn' hm' hrow nx ha hnil hrow' ny hc hnil' hfg (hexP_ne nx ny (fun h => hfg h.1))
  · exact inj_big ad n c f ad' m c' g w hn hm h1

end Go.Proofs.Qxb6600466aMods

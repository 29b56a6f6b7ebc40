import Derived.Test.Qxb6600466aModsAre
import Derived.Test.Qxb6600466aModsHexLaw
namespace Go.Proofs.Qxb6600466aMods
open Go.RowKit
set_option linter.unusedVariables false
set_option linter.unusedSimpArgs false

theorem back_law {zs : List Int} {n : Nat} (hz : zs.length = n) (hn : Nib zs) (leaf : Bool) : areB (hexP zs leaf) zs (if n % 2 = 0 then 2 else 1) true = true := by
  have hl := want_len zs leaf
  rw [hz] at hl
  refine areB_yes ?_ ?_ ?_
  · rw [hexP_len, hz]
    split <;> omega
  · intro _
    rw [hexP_len, hz]
    split <;> omega
  · intro i hi
    rw [hz] at hi
    by_cases hp : n % 2 = 0
    · rw [if_pos hp, want_nib hn leaf _ (by rw [hl]; omega)]
      unfold wantL
      rw [hz, if_pos hp, show 2 + i = i + 2 by omega]
      show nth (_ :: _ :: zs) (i + 2) = nth zs i
      rw [nth_cons_succ, nth_cons_succ]
    · rw [if_neg hp, want_nib hn leaf _ (by rw [hl]; omega)]
      unfold wantL
      rw [hz, if_neg hp, show 1 + i = i + 1 by omega]
      show nth (_ :: zs) (i + 1) = nth zs i
      rw [nth_cons_succ]

theorem back_big (ad : Option Addr) (n cap : Nat) (leaf : Bool) (w : World) (hn : ¬ n ≤ 1048576) :
    Calls Trym.prog 5 #[.slice ad n cap, .bool leaf] w fun e w' => e = .returned (.bool true) ∧ Below w.heap.size w w' := by
  go_enter Trym.func5, Trym.ntmps5
  go_wp2_with (go_at_call 17; refine (zz17_no _ _ _ _ _ hn).mono ?_; rintro e w' ⟨rfl, rfl⟩)
  go_ret
  exact ⟨rfl, Below.refl _ _⟩

theorem back_not (ad : Option Addr) (n cap : Nat) (zs : List Int) (leaf : Bool) (w : World) (hz : zs.length = n) (hn : n ≤ 1048576) (hrow : Row .u8 w ad zs) (hall : allB zs = false) :
    Calls Trym.prog 5 #[.slice ad n cap, .bool leaf] w fun e w' => e = .returned (.bool true) ∧ Below w.heap.size w w' := by
  have h1 : ¬ (1048576 : Int) < (n : Int) := by omega
  have HZ : Hid (zs.length = n) := hz
  clear hz
  go_enter Trym.func5, Trym.ntmps5
  go_wp2_with (first | (go_at_call 17; refine (zz17_yes _ _ _ _ _ hn).mono ?_; rintro e w' ⟨rfl, rfl⟩) | (go_at_call 12; refine (allNibbles_any _ _ _ zs _ HZ.out (by unfold maxLen; omega) hrow).mono ?_; rintro e w' ⟨rfl, rfl⟩))
  go_ret
  exact ⟨rfl, Below.refl _ _⟩

theorem Blk.row0' {w : World} {b : Nat} {zs : List Int} (h : Blk w b 5 (u8s zs)) : Row .u8 w (some ⟨b, 0, none⟩) zs := Blk.row (tl := []) (by simpa using h)

set_option maxRecDepth 100000 in
set_option maxHeartbeats 800000 in
theorem back_yes (ad : Option Addr) (n cap : Nat) (zs : List Int) (leaf : Bool) (w : World) (hz : zs.length = n) (hn : n ≤ 1048576) (hrow : Row .u8 w ad zs) (hbyt : Byt zs) (hnil : ad = none → n = 0) (hall : allB zs = true) :
    Calls Trym.prog 5 #[.slice ad n cap, .bool leaf] w fun e w' => e = .returned (.bool true) ∧ Below w.heap.size w w' := by
  have hnib : Nib zs := nib_of hbyt hall
  have HL : Hid (areB (hexP zs leaf) zs (if n % 2 = 0 then 2 else 1) true = true) := back_law hz hnib leaf
  have h1 : ¬ (1048576 : Int) < (n : Int) := by omega
  have HZ : Hid (zs.length = n) := hz
  clear hz
  by_cases hpar : n % 2 = 0
  · rw [if_pos hpar] at HL
    have hp1 : ((n : Int) % 2 == 1) = false := by rw [beq_eq_false_iff_ne]; omega
    clear hpar
    go_enter Trym.func5, Trym.ntmps5
    go_wp2_with (first | (go_at_call 17; refine (zz17_yes _ _ _ _ _ hn).mono ?_; rintro e w' ⟨rfl, rfl⟩) | (go_at_call 12; refine (allNibbles_any _ _ _ zs _ HZ.out (by unfold maxLen; omega) hrow).mono ?_; rintro e w' ⟨rfl, rfl⟩))
    refine (cloneBytes_any ad n cap zs w HZ.out hn hrow hnil).mono ?_
    rintro e w1 ⟨ad1, rfl, hrow1, hbel1, hat1⟩
    go_wp2_with fail
    refine (ZZHexPrefix_any ad1 n zs _ w1 HZ.out hn hrow1 hnib (fun b off e => (hat1 b off e).2)).mono ?_
    rintro e w2 ⟨rfl, hblk2, hbel2⟩
    go_wp2_with fail
    refine (ZZNibblesAre_any _ (1 + n / 2) _ _ ad1 n _ zs 2 true w2 ((hexP_len _ _).trans (by rw [HZ.out])) (by omega) hblk2.row0' (hexP_byt hnib _) HZ.out hn (hrow1.below hbel2) (by omega)).mono ?_
    rintro e w3 ⟨rfl, rfl⟩
    rw [HL.out]
    go_wp2
    go_ret
    exact ⟨rfl, hbel1.trans (hbel2.mono hbel1.size)⟩
  · rw [if_neg hpar] at HL
    have hp1 : ((n : Int) % 2 == 1) = true := by rw [beq_iff_eq]; omega
    clear hpar
    go_enter Trym.func5, Trym.ntmps5
    go_wp2_with (first | (go_at_call 17; refine (zz17_yes _ _ _ _ _ hn).mono ?_; rintro e w' ⟨rfl, rfl⟩) | (go_at_call 12; refine (allNibbles_any _ _ _ zs _ HZ.out (by unfold maxLen; omega) hrow).mono ?_; rintro e w' ⟨rfl, rfl⟩))
    refine (cloneBytes_any ad n cap zs w HZ.out hn hrow hnil).mono ?_
    rintro e w1 ⟨ad1, rfl, hrow1, hbel1, hat1⟩
    go_wp2_with fail
    refine (ZZHexPrefix_any ad1 n zs _ w1 HZ.out hn hrow1 hnib (fun b off e => (hat1 b off e).2)).mono ?_
    rintro e w2 ⟨rfl, hblk2, hbel2⟩
    go_wp2_with fail
    refine (ZZNibblesAre_any _ (1 + n / 2) _ _ ad1 n _ zs 1 true w2 ((hexP_len _ _).trans (by rw [HZ.out])) (by omega) hblk2.row0' (hexP_byt hnib _) HZ.out hn (hrow1.below hbel2) (by omega)).mono ?_
    rintro e w3 ⟨rfl, rfl⟩
    rw [HL.out]
    go_wp2
    go_ret
    exact ⟨rfl, hbel1.trans (hbel2.mono hbel1.size)⟩

theorem back_all (ad : Option Addr) (n cap : Nat) (zs : List Int) (leaf : Bool) (w : World) (hz : zs.length = n) (hrow : Row .u8 w ad zs) (hbyt : Byt zs) (hnil : ad = none → n = 0) :
    Calls Trym.prog 5 #[.slice ad n cap, .bool leaf] w fun e w' => e = .returned (.bool true) ∧ Below w.heap.size w w' := by
  by_cases hn : n ≤ 1048576
  · cases hall : allB zs
    · exact back_not ad n cap zs leaf w hz hn hrow hall
    · exact back_yes ad n cap zs leaf w hz hn hrow hbyt hnil hall
  · exact back_big ad n cap leaf w hn

end Go.Proofs.Qxb6600466aMods

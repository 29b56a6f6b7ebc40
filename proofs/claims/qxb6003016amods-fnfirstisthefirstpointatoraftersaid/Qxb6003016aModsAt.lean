import Derived.Test.Qxb6003016aModsPlainF
import Derived.Test.Qxb6003016aModsMask
namespace Go.Proofs.Qxb6003016aMods
open Go.RowKit
set_option linter.unusedVariables false
set_option linter.unusedSimpArgs false

set_option maxRecDepth 100000 in
set_option maxHeartbeats 800000 in
theorem at_9 (ad : Option Addr) (n cap : Nat) (zs : List Int) (p : Int) (w : World) (hz : zs.length = n) (hn : n ≤ 1048576) (hrow : Row .u32 w ad zs) (hb : ∀ j, 0 ≤ nth zs j ∧ nth zs j ≤ 4294967295) (hp : 0 ≤ p ∧ p ≤ 4294967295) (hs : Srt zs) :
    Calls Trym.prog 9 #[.slice ad n cap, .int .u32 p] w fun e w' => ∃ i : Nat, e = .returned (.int .i64 i) ∧ FG zs p i ∧ w = w' := by
  have HZ : Hid (zs.length = n) := hz
  have S0 : Sea zs p 0 n := ⟨by omega, fun j hj => absurd hj (Nat.not_lt_zero _), fun h => by omega, fun h => by omega⟩
  clear hz
  go_enter Trym.func9, Trym.ntmps9
  go_wp2
  go_loop [5, 6] (fun x y => ∃ b m : Nat, x = .int .i64 b ∧ y = .int .i64 m ∧ Sea zs p b m) (fun _ y => (intOf y).toNat)
  case atStart => exact ⟨0, n, rfl, rfl, S0⟩
  case round =>
    clear S0
    obtain ⟨b, m, rfl, rfl, S⟩ := hrel
    have hfit := S.fit
    rw [HZ.out] at hfit
    by_cases h1 : 1 < m
    · obtain ⟨bk, off, rfl, _, hc⟩ := hrow (b + m / 2 - 1) (by rw [HZ.out]; omega)
      have hv := hb (b + m / 2 - 1)
      by_cases hlt : nth zs (b + m / 2 - 1) < p
      · have S' := S.right hs h1 hlt
        have e1 : (nth zs (b + m / 2 - 1) - p) / 9223372036854775808 = -1 := div63_neg _ (by omega) (by omega)
        have e2 : bits .and .i64 ((m : Int) / 2) (-1) = (m : Int) / 2 := and_ones _ (by omega) (by omega)
        have HE1 : Hid ((nth zs (b + m / 2 - 1) - p) / 9223372036854775808 = -1) := e1
        have HE2 : Hid (bits .and .i64 ((m : Int) / 2) (-1) = (m : Int) / 2) := e2
        clear e1 e2 S
        go_wp2
        go_round
        case rel => exact ⟨b + m / 2, m - m / 2, by rw [HE1.out, HE2.out]; rw [IntWalk.wrap64_in _ ⟨by omega, by omega⟩]; go_num, by go_num, S'⟩
        case measure => simp [intOf]; omega
      · have S' := S.left hs h1 hlt
        have e1 : (nth zs (b + m / 2 - 1) - p) / 9223372036854775808 = 0 := div63_pos _ (by omega) (by omega)
        have e2 : bits .and .i64 ((m : Int) / 2) 0 = 0 := and_zero _
        have HE1 : Hid ((nth zs (b + m / 2 - 1) - p) / 9223372036854775808 = 0) := e1
        have HE2 : Hid (bits .and .i64 ((m : Int) / 2) 0 = 0) := e2
        clear e1 e2 S
        go_wp2
        go_round
        case rel => exact ⟨b, m - m / 2, by rw [HE1.out, HE2.out]; rw [IntWalk.wrap64_in _ ⟨by omega, by omega⟩]; go_num, by go_num, S'⟩
        case measure => simp [intOf]; omega
    · by_cases h0 : m = 0
      · subst h0
        have G := S.none
        go_wp2
        go_ret
        exact ⟨b, rfl, G, rfl⟩
      · obtain rfl : m = 1 := by omega
        obtain ⟨bk, off, rfl, _, hc⟩ := hrow b (by rw [HZ.out]; omega)
        by_cases hlt : nth zs b < p
        · have G := S.last hlt
          go_wp2
          go_ret
          exact ⟨b + 1, by simp, G, rfl⟩
        · have G := S.here hlt
          go_wp2
          go_ret
          exact ⟨b, rfl, G, rfl⟩

set_option maxRecDepth 100000 in
set_option maxHeartbeats 800000 in
theorem at_10 (ad : Option Addr) (n cap : Nat) (zs : List Int) (p : Int) (w : World) (hz : zs.length = n) (hn : n ≤ 1048576) (hrow : Row .u16 w ad zs) (hb : ∀ j, 0 ≤ nth zs j ∧ nth zs j ≤ 65535) (hp : 0 ≤ p ∧ p ≤ 65535) (hs : Srt zs) :
    Calls Trym.prog 10 #[.slice ad n cap, .int .u16 p] w fun e w' => ∃ i : Nat, e = .returned (.int .i64 i) ∧ FG zs p i ∧ w = w' := by
  have HZ : Hid (zs.length = n) := hz
  have S0 : Sea zs p 0 n := ⟨by omega, fun j hj => absurd hj (Nat.not_lt_zero _), fun h => by omega, fun h => by omega⟩
  clear hz
  go_enter Trym.func10, Trym.ntmps10
  go_wp2
  go_loop [5, 6] (fun x y => ∃ b m : Nat, x = .int .i64 b ∧ y = .int .i64 m ∧ Sea zs p b m) (fun _ y => (intOf y).toNat)
  case atStart => exact ⟨0, n, rfl, rfl, S0⟩
  case round =>
    clear S0
    obtain ⟨b, m, rfl, rfl, S⟩ := hrel
    have hfit := S.fit
    rw [HZ.out] at hfit
    by_cases h1 : 1 < m
    · obtain ⟨bk, off, rfl, _, hc⟩ := hrow (b + m / 2 - 1) (by rw [HZ.out]; omega)
      have hv := hb (b + m / 2 - 1)
      by_cases hlt : nth zs (b + m / 2 - 1) < p
      · have S' := S.right hs h1 hlt
        have e1 : (nth zs (b + m / 2 - 1) - p) / 9223372036854775808 = -1 := div63_neg _ (by omega) (by omega)
        have e2 : bits .and .i64 ((m : Int) / 2) (-1) = (m : Int) / 2 := and_ones _ (by omega) (by omega)
        have HE1 : Hid ((nth zs (b + m / 2 - 1) - p) / 9223372036854775808 = -1) := e1
        have HE2 : Hid (bits .and .i64 ((m : Int) / 2) (-1) = (m : Int) / 2) := e2
        clear e1 e2 S
        go_wp2
        go_round
        case rel => exact ⟨b + m / 2, m - m / 2, by rw [HE1.out, HE2.out]; rw [IntWalk.wrap64_in _ ⟨by omega, by omega⟩]; go_num, by go_num, S'⟩
        case measure => simp [intOf]; omega
      · have S' := S.left hs h1 hlt
        have e1 : (nth zs (b + m / 2 - 1) - p) / 9223372036854775808 = 0 := div63_pos _ (by omega) (by omega)
        have e2 : bits .and .i64 ((m : Int) / 2) 0 = 0 := and_zero _
        have HE1 : Hid ((nth zs (b + m / 2 - 1) - p) / 9223372036854775808 = 0) := e1
        have HE2 : Hid (bits .and .i64 ((m : Int) / 2) 0 = 0) := e2
        clear e1 e2 S
        go_wp2
        go_round
        case rel => exact ⟨b, m - m / 2, by rw [HE1.out, HE2.out]; rw [IntWalk.wrap64_in _ ⟨by omega, by omega⟩]; go_num, by go_num, S'⟩
        case measure => simp [intOf]; omega
    · by_cases h0 : m = 0
      · subst h0
        have G := S.none
        go_wp2
        go_ret
        exact ⟨b, rfl, G, rfl⟩
      · obtain rfl : m = 1 := by omega
        obtain ⟨bk, off, rfl, _, hc⟩ := hrow b (by rw [HZ.out]; omega)
        by_cases hlt : nth zs b < p
        · have G := S.last hlt
          go_wp2
          go_ret
          exact ⟨b + 1, by simp, G, rfl⟩
        · have G := S.here hlt
          go_wp2
          go_ret
          exact ⟨b, rfl, G, rfl⟩

end Go.Proofs.Qxb6003016aMods

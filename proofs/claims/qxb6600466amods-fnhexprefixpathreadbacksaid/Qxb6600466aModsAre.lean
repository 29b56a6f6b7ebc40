import Derived.Test.Qxb6600466aModsSpec
namespace Go.Proofs.Qxb6600466aMods
open Go.RowKit
set_option linter.unusedVariables false
set_option linter.unusedSimpArgs false

/-- What nibblesAre answers. -/
def areB (key path : List Int) (f : Nat) (whole : Bool) : Bool :=
  decide (f + path.length ≤ 2 * key.length ∧ (whole = true → f + path.length = 2 * key.length) ∧ ∀ i, i < path.length → nibAt key (f + i) = nth path i)

theorem areB_short {key path : List Int} {f : Nat} {whole : Bool} (h : ¬ f + path.length ≤ 2 * key.length) : areB key path f whole = false := by
  unfold areB
  simp only [decide_eq_false_iff_not]
  intro hh
  exact h hh.1
theorem areB_whole {key path : List Int} {f : Nat} (h : ¬ f + path.length = 2 * key.length) : areB key path f true = false := by
  unfold areB
  simp only [decide_eq_false_iff_not]
  intro hh
  exact h (hh.2.1 trivial)
theorem areB_at {key path : List Int} {f i : Nat} {whole : Bool} (hi : i < path.length) (h : nibAt key (f + i) ≠ nth path i) : areB key path f whole = false := by
  unfold areB
  simp only [decide_eq_false_iff_not]
  intro hh
  exact h (hh.2.2 i hi)
theorem areB_yes {key path : List Int} {f : Nat} {whole : Bool} (h1 : f + path.length ≤ 2 * key.length) (h2 : whole = true → f + path.length = 2 * key.length) (h3 : ∀ i, i < path.length → nibAt key (f + i) = nth path i) : areB key path f whole = true := by
  unfold areB
  simp only [decide_eq_true_eq]
  exact ⟨h1, h2, h3⟩

theorem are_snoc {key path : List Int} {f k : Nat} (h : ∀ j, j < k → nibAt key (f + j) = nth path j) (e : nibAt key (f + k) = nth path k) : ∀ j, j < k + 1 → nibAt key (f + j) = nth path j := by
  intro j hj
  by_cases hjk : j < k
  · exact h j hjk
  · have : j = k := by omega
    subst this
    exact e

set_option maxHeartbeats 400000 in
theorem nibblesAre_short (ad : Option Addr) (n cap : Nat) (ad' : Option Addr) (m cap' : Nat) (f : Int) (whole : Bool) (w : World) (hn : n ≤ 1048576) (hm : m ≤ 1048576)
    (hf : 0 ≤ f) (hf2 : f ≤ 9223372036854775807) (hs : 2 * (n : Int) - f < (m : Int)) :
    Calls Trym.prog 30 #[.slice ad n cap, .int .i64 f, .slice ad' m cap', .bool whole] w fun e w' => e = .returned (.bool false) ∧ w = w' := by
  go_enter Trym.func30, Trym.ntmps30
  go_wp2
  go_ret
  exact ⟨rfl, rfl⟩

set_option maxHeartbeats 400000 in
theorem nibblesAre_whole (ad : Option Addr) (n cap : Nat) (ad' : Option Addr) (m cap' : Nat) (f : Int) (w : World) (hn : n ≤ 1048576) (hm : m ≤ 1048576)
    (hf : 0 ≤ f) (hf2 : f ≤ 9223372036854775807) (hs : (m : Int) ≤ 2 * (n : Int) - f) (hne : (2 * (n : Int) - f != (m : Int)) = true) :
    Calls Trym.prog 30 #[.slice ad n cap, .int .i64 f, .slice ad' m cap', .bool true] w fun e w' => e = .returned (.bool false) ∧ w = w' := by
  have hd : decide (2 * (n : Int) - f < (m : Int)) = false := decide_eq_false (by omega)
  go_enter Trym.func30, Trym.ntmps30
  go_wp2
  go_ret
  exact ⟨rfl, rfl⟩

set_option maxHeartbeats 800000 in
theorem nibblesAre_loop (ad : Option Addr) (n cap : Nat) (key : List Int) (ad' : Option Addr) (m cap' : Nat) (path : List Int) (f : Nat) (whole : Bool) (w : World) (hz : key.length = n) (hn : n ≤ 1048576) (hrow : Row .u8 w ad key) (hb : Byt key)
    (hz' : path.length = m) (hm : m ≤ 1048576) (hrow' : Row .u8 w ad' path) (hfm : f + m ≤ 2 * n) (hw : whole = true → f + m = 2 * n) :
    Calls Trym.prog 30 #[.slice ad n cap, .int .i64 f, .slice ad' m cap', .bool whole] w fun e w' => e = .returned (.bool (areB key path f whole)) ∧ w = w' := by
  have hd : decide (2 * (n : Int) - (f : Int) < (m : Int)) = false := decide_eq_false (by omega)
  have HZ : Hid (key.length = n) := hz
  have HY : Hid (path.length = m) := hz'
  have HW : Hid (whole = true → f + m = 2 * n) := hw
  clear hz hz'
  cases whole
  all_goals try (have hq : (2 * (n : Int) - (f : Int) != (m : Int)) = false := by rw [bne_eq_false_iff_eq]; have := hw rfl; omega)
  all_goals
    clear hw
    go_enter Trym.func30, Trym.ntmps30
    go_wp2
    go_loop [32] (fun i => ∃ k : Nat, k ≤ m ∧ i = .int .i64 k ∧ ∀ j, j < k → nibAt key (f + j) = nth path j) (fun i => m - (intOf i).toNat)
    case atStart => exact ⟨0, Nat.zero_le _, rfl, fun j hj => absurd hj (Nat.not_lt_zero _)⟩
    case round =>
      obtain ⟨k, hk, rfl, hall⟩ := hrel
      have HA : Hid (∀ j, j < k → nibAt key (f + j) = nth path j) := hall
      clear hall
      by_cases hlt : k < m
      · obtain ⟨b, off, rfl, _, hc⟩ := hrow' k (by rw [HY.out]; exact hlt)
        by_cases heq : nibAt key (f + k) = nth path k
        · have HE : Hid (nibAt key (f + k) = nth path k) := heq
          have hne : (nibAt key (f + k) != nth path k) = false := by simp [heq]
          clear heq
          go_wp2_with fail
          refine (nibbleAt_any _ n _ key _ _ HZ.out (by unfold maxLen; omega) hrow hb (by omega) (by omega)).mono ?_
          rintro e w' ⟨rfl, rfl⟩
          rw [show ((f : Int) + (k : Int)).toNat = f + k by omega]
          go_wp2
          go_round
          case rel => exact ⟨k + 1, by omega, by go_num, are_snoc HA.out HE.out⟩
          case measure => simp [intOf]; omega
        · have hne : (nibAt key (f + k) != nth path k) = true := by simp [heq]
          have HF := fun wh => areB_at (whole := wh) (by rw [HY.out]; exact hlt) heq
          go_wp2_with fail
          refine (nibbleAt_any _ n _ key _ _ HZ.out (by unfold maxLen; omega) hrow hb (by omega) (by omega)).mono ?_
          rintro e w' ⟨rfl, rfl⟩
          rw [show ((f : Int) + (k : Int)).toNat = f + k by omega]
          go_wp2
          go_ret
          rw [HF]
          exact ⟨rfl, rfl⟩
      · go_wp2
        go_ret
        rw [areB_yes (by rw [HZ.out, HY.out]; exact hfm) (by rw [HZ.out, HY.out]; intro h; first | exact HW.out trivial | cases h) (fun j hj => HA.out j (by have := HY.out; omega))]
        exact ⟨rfl, rfl⟩

theorem nibblesAre_any (ad : Option Addr) (n cap : Nat) (key : List Int) (ad' : Option Addr) (m cap' : Nat) (path : List Int) (f : Nat) (whole : Bool) (w : World) (hz : key.length = n) (hn : n ≤ 1048576) (hrow : Row .u8 w ad key) (hb : Byt key)
    (hz' : path.length = m) (hm : m ≤ 1048576) (hrow' : Row .u8 w ad' path) (hf : f ≤ 9223372036854775807) :
    Calls Trym.prog 30 #[.slice ad n cap, .int .i64 f, .slice ad' m cap', .bool whole] w fun e w' => e = .returned (.bool (areB key path f whole)) ∧ w = w' := by
  by_cases h1 : f + m ≤ 2 * n
  · by_cases h2 : whole = true → f + m = 2 * n
    · exact nibblesAre_loop ad n cap key ad' m cap' path f whole w hz hn hrow hb hz' hm hrow' h1 h2
    · cases whole
      · exact absurd (fun e => by cases e) h2
      · rw [areB_whole (by rw [hz, hz']; exact fun e => h2 (fun _ => e))]
        exact nibblesAre_whole ad n cap ad' m cap' f w hn hm (by omega) (by omega) (by omega) (by rw [bne_iff_ne]; intro e; exact h2 (fun _ => by omega))
  · rw [areB_short (by rw [hz, hz']; exact h1)]
    exact nibblesAre_short ad n cap ad' m cap' f whole w hn hm (by omega) (by omega) (by omega)

theorem ZZNibblesAre_any (ad : Option Addr) (n cap : Nat) (key : List Int) (ad' : Option Addr) (m cap' : Nat) (path : List Int) (f : Nat) (whole : Bool) (w : World) (hz : key.length = n) (hn : n ≤ 1048576) (hrow : Row .u8 w ad key) (hb : Byt key)
    (hz' : path.length = m) (hm : m ≤ 1048576) (hrow' : Row .u8 w ad' path) (hf : f ≤ 9223372036854775807) :
    Calls Trym.prog 18 #[.slice ad n cap, .int .i64 f, .slice ad' m cap', .bool whole] w fun e w' => e = .returned (.bool (areB key path f whole)) ∧ w = w' := by
  have HZ : Hid (key.length = n) := hz
  have HY : Hid (path.length = m) := hz'
  clear hz hz'
  go_enter Trym.func18, Trym.ntmps18
  go_wp2_with fail
  refine (nibblesAre_any ad n cap key ad' m cap' path f whole w HZ.out hn hrow hb HY.out hm hrow' hf).mono ?_
  rintro e w' ⟨rfl, rfl⟩
  go_wp2
  go_ret
  exact ⟨rfl, rfl⟩

end Go.Proofs.Qxb6600466aMods

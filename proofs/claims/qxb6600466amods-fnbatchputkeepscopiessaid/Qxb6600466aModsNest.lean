import Derived.Test.Qxb6600466aModsPut
namespace Go.Proofs.Qxb6600466aMods
open Go.RowKit
set_option linter.unusedVariables false
set_option linter.unusedSimpArgs false
attribute [local go_sem ↓] Go.wp_at_zero Go.wp_at_succ

def rowOf (zss : List (List Int)) (r : Nat) : List Int := zss.getD r []
def lenOf (zss : List (List Int)) (r : Nat) : Nat := (rowOf zss r).length

/-- A slice of slices of bytes that came in. -/
def Nest (w : World) (ad : Option Addr) (zss : List (List Int)) : Prop :=
  ∀ r, r < zss.length → ∃ b off a c, ad = some ⟨b, off, none⟩ ∧ b < w.heap.size ∧ w.cell? ⟨b, off + r, none⟩ = some (.slice a (lenOf zss r) c) ∧ Row .u8 w a (rowOf zss r) ∧ (a = none → lenOf zss r = 0)

theorem Nest.below {w w' : World} {ad : Option Addr} {zss : List (List Int)} (h : Nest w ad zss) (hb : Below w.heap.size w w') : Nest w' ad zss := by
  intro r hr
  obtain ⟨b, off, a, c, e, h1, h2, h3, h4⟩ := h r hr
  exact ⟨b, off, a, c, e, Nat.lt_of_lt_of_le h1 hb.size, (hb.cell (p := ⟨b, off + r, none⟩) h1).trans h2, h3.below hb, h4⟩

/-! ### nestedSize -/
set_option maxHeartbeats 800000 in
theorem nestedSize_any (ad : Option Addr) (n c : Nat) (zss : List (List Int)) (w : World) (hz : zss.length = n) (hn : n ≤ 65536) (hx : Nest w ad zss) :
    Calls Trym.prog 22 #[.slice ad n c] w fun e w' => ∃ t : Int, e = .returned (.int .i64 t) ∧ 0 ≤ t ∧ t ≤ 2097152 ∧ w = w' := by
  have HZ : Hid (zss.length = n) := hz
  clear hz
  go_enter Trym.func22, Trym.ntmps22
  go_wp2
  go_loop [3, 4] (fun t i => ∃ (k : Nat) (x : Int), k ≤ n ∧ i = .int .i64 k ∧ t = .int .i64 x ∧ 0 ≤ x ∧ x ≤ 1572864) (fun _ i => n - (intOf i).toNat)
  case atStart => exact ⟨0, _, Nat.zero_le _, rfl, rfl, by omega, by omega⟩
  case round =>
    obtain ⟨k, x, hk, rfl, rfl, hx0, hx1⟩ := hrel
    by_cases hlt : k < n
    · obtain ⟨b, off, a, c', rfl, hlb, hc, _, _⟩ := hx k (by rw [HZ.out]; exact hlt)
      generalize lenOf zss k = L at hc
      by_cases hL : L ≤ 1048576
      · have hd : decide ((1048576 : Int) < (L : Int)) = false := decide_eq_false (by omega)
        by_cases hx2 : x + (L : Int) ≤ 1048576
        · go_wp2
          go_round
          case rel => exact ⟨k + 1, _, by omega, by go_num, rfl, by omega, by omega⟩
          case measure => simp [intOf]; omega
        · go_wp2
          go_ret
          exact ⟨_, rfl, by omega, by omega, rfl⟩
      · go_wp2
        go_ret
        exact ⟨_, rfl, by omega, by omega, rfl⟩
    · go_wp2
      go_ret
      exact ⟨_, rfl, by omega, by omega, rfl⟩

/-! ### The guard -/
def Small (zss : List (List Int)) (k : Nat) : Prop := ∀ r, r < k → lenOf zss r ≤ 1048576
theorem Small.snoc {zss : List (List Int)} {k L : Nat} (h : Small zss k) (hL : lenOf zss k = L) (h2 : L ≤ 1048576) : Small zss (k + 1) := by
  intro r hr
  by_cases e : r < k
  · exact h r e
  · obtain rfl : r = k := by omega
    omega

def Guarded (p : Prop) (e : Ending) : Prop := e = .returned (.bool false) ∨ (e = .returned (.bool true) ∧ p)
theorem Guarded.no {p : Prop} : Guarded p (.returned (.bool false)) := .inl rfl
theorem Guarded.yes {p : Prop} (h : p) : Guarded p (.returned (.bool true)) := .inr ⟨rfl, h⟩

set_option maxRecDepth 100000 in
set_option maxHeartbeats 1600000 in
theorem zz21_any (ad : Option Addr) (n c : Nat) (zss : List (List Int)) (ad' : Option Addr) (m c' : Nat) (yss : List (List Int)) (w : World) (hz : zss.length = n) (hx : Nest w ad zss) (hz' : yss.length = m) (hy : Nest w ad' yss) :
    Calls Trym.prog 21 #[.slice ad n c, .slice ad' m c'] w fun e w' => Guarded (Small zss n ∧ Small yss m) e ∧ w = w' := by
  have HZ : Hid (zss.length = n) := hz
  have HY : Hid (yss.length = m) := hz'
  clear hz hz'
  by_cases hn : n ≤ 1048576
  · have hd : decide ((1048576 : Int) < (n : Int)) = false := decide_eq_false (by omega)
    go_enter Trym.func21, Trym.ntmps21
    go_wp2
    go_loop [5, 6] (fun t i => ∃ (k : Nat) (x : Int), k ≤ n ∧ i = .int .i64 k ∧ t = .int .i64 x ∧ 0 ≤ x ∧ x ≤ 1048576 ∧ Small zss k) (fun _ i => n - (intOf i).toNat)
    case atStart => exact ⟨0, _, Nat.zero_le _, rfl, rfl, by omega, by omega, fun r hr => absurd hr (Nat.not_lt_zero _)⟩
    case round =>
      obtain ⟨k, x, hk, rfl, rfl, hx0, hx1, hs⟩ := hrel
      by_cases hlt : k < n
      · obtain ⟨b, off, a, c1, rfl, hlb, hc, _, _⟩ := hx k (by rw [HZ.out]; exact hlt)
        generalize hLe : lenOf zss k = L at hc
        have HL : Hid (lenOf zss k = L) := hLe
        clear hLe
        by_cases hL : L ≤ 1048576
        · have hd1 : decide ((1048576 : Int) < (L : Int)) = false := decide_eq_false (by omega)
          by_cases hx2 : x + (L : Int) ≤ 1048576
          · go_wp2
            go_round
            case rel => exact ⟨k + 1, _, by omega, by go_num, rfl, by omega, by omega, hs.snoc HL.out hL⟩
            case measure => simp [intOf]; omega
          · go_wp2
            go_ret
            exact ⟨Guarded.no, rfl⟩
        · go_wp2
          go_ret
          exact ⟨Guarded.no, rfl⟩
      · have hkn : k = n := by omega
        subst hkn
        by_cases hm : m ≤ 1048576
        · have hd2 : decide ((1048576 : Int) < (m : Int)) = false := decide_eq_false (by omega)
          by_cases hxm : x + (m : Int) ≤ 1048576
          · have hd3 : decide ((1048576 : Int) < x + (m : Int)) = false := decide_eq_false (by omega)
            go_wp2
            go_loop [5, 7] (fun t i => ∃ (j : Nat) (x : Int), j ≤ m ∧ i = .int .i64 j ∧ t = .int .i64 x ∧ 0 ≤ x ∧ x ≤ 1048576 ∧ Small yss j) (fun _ i => m - (intOf i).toNat)
            case atStart => exact ⟨0, _, Nat.zero_le _, rfl, rfl, by omega, by omega, fun r hr => absurd hr (Nat.not_lt_zero _)⟩
            case round =>
              obtain ⟨j, x', hj, rfl, rfl, hx0', hx1', hs'⟩ := hrel
              by_cases hltj : j < m
              · obtain ⟨b, off, a, c1, rfl, hlb, hc, _, _⟩ := hy j (by rw [HY.out]; exact hltj)
                generalize hLe : lenOf yss j = L at hc
                have HL : Hid (lenOf yss j = L) := hLe
                clear hLe
                by_cases hL : L ≤ 1048576
                · have hd1 : decide ((1048576 : Int) < (L : Int)) = false := decide_eq_false (by omega)
                  by_cases hx2 : x' + (L : Int) ≤ 1048576
                  · go_wp2
                    go_round
                    case rel => exact ⟨j + 1, _, by omega, by go_num, rfl, by omega, by omega, hs'.snoc HL.out hL⟩
                    case measure => simp [intOf]; omega
                  · go_wp2
                    go_ret
                    exact ⟨Guarded.no, rfl⟩
                · go_wp2
                  go_ret
                  exact ⟨Guarded.no, rfl⟩
              · have hjm : j = m := by omega
                subst hjm
                go_wp2
                go_ret
                exact ⟨Guarded.yes (by first | trivial | exact ⟨hs, hs'⟩), rfl⟩
          · go_wp2
            go_ret
            exact ⟨Guarded.no, rfl⟩
        · go_wp2
          go_ret
          exact ⟨Guarded.no, rfl⟩
  · go_enter Trym.func21, Trym.ntmps21
    go_wp2
    go_ret
    exact ⟨Guarded.no, rfl⟩

set_option maxRecDepth 100000 in
set_option maxHeartbeats 1600000 in
theorem zz26_any (ad : Option Addr) (n c : Nat) (zss : List (List Int)) (ad' : Option Addr) (m c' : Nat) (yss : List (List Int)) (w : World) (hz : zss.length = n) (hx : Nest w ad zss) (hz' : yss.length = m) (hy : Nest w ad' yss) :
    Calls Trym.prog 26 #[.slice ad n c, .slice ad' m c'] w fun e w' => Guarded (Small zss n ∧ Small yss m) e ∧ w = w' := by
  have HZ : Hid (zss.length = n) := hz
  have HY : Hid (yss.length = m) := hz'
  clear hz hz'
  by_cases hn : n ≤ 1048576
  · have hd : decide ((1048576 : Int) < (n : Int)) = false := decide_eq_false (by omega)
    go_enter Trym.func26, Trym.ntmps26
    go_wp2
    go_loop [5, 6] (fun t i => ∃ (k : Nat) (x : Int), k ≤ n ∧ i = .int .i64 k ∧ t = .int .i64 x ∧ 0 ≤ x ∧ x ≤ 1048576 ∧ Small zss k) (fun _ i => n - (intOf i).toNat)
    case atStart => exact ⟨0, _, Nat.zero_le _, rfl, rfl, by omega, by omega, fun r hr => absurd hr (Nat.not_lt_zero _)⟩
    case round =>
      obtain ⟨k, x, hk, rfl, rfl, hx0, hx1, hs⟩ := hrel
      by_cases hlt : k < n
      · obtain ⟨b, off, a, c1, rfl, hlb, hc, _, _⟩ := hx k (by rw [HZ.out]; exact hlt)
        generalize hLe : lenOf zss k = L at hc
        have HL : Hid (lenOf zss k = L) := hLe
        clear hLe
        by_cases hL : L ≤ 1048576
        · have hd1 : decide ((1048576 : Int) < (L : Int)) = false := decide_eq_false (by omega)
          by_cases hx2 : x + (L : Int) ≤ 1048576
          · go_wp2
            go_round
            case rel => exact ⟨k + 1, _, by omega, by go_num, rfl, by omega, by omega, hs.snoc HL.out hL⟩
            case measure => simp [intOf]; omega
          · go_wp2
            go_ret
            exact ⟨Guarded.no, rfl⟩
        · go_wp2
          go_ret
          exact ⟨Guarded.no, rfl⟩
      · have hkn : k = n := by omega
        subst hkn
        by_cases hm : m ≤ 1048576
        · have hd2 : decide ((1048576 : Int) < (m : Int)) = false := decide_eq_false (by omega)
          by_cases hxm : x + (m : Int) ≤ 1048576
          · have hd3 : decide ((1048576 : Int) < x + (m : Int)) = false := decide_eq_false (by omega)
            go_wp2
            go_loop [5, 7] (fun t i => ∃ (j : Nat) (x : Int), j ≤ m ∧ i = .int .i64 j ∧ t = .int .i64 x ∧ 0 ≤ x ∧ x ≤ 1048576 ∧ Small yss j) (fun _ i => m - (intOf i).toNat)
            case atStart => exact ⟨0, _, Nat.zero_le _, rfl, rfl, by omega, by omega, fun r hr => absurd hr (Nat.not_lt_zero _)⟩
            case round =>
              obtain ⟨j, x', hj, rfl, rfl, hx0', hx1', hs'⟩ := hrel
              by_cases hltj : j < m
              · obtain ⟨b, off, a, c1, rfl, hlb, hc, _, _⟩ := hy j (by rw [HY.out]; exact hltj)
                generalize hLe : lenOf yss j = L at hc
                have HL : Hid (lenOf yss j = L) := hLe
                clear hLe
                by_cases hL : L ≤ 1048576
                · have hd1 : decide ((1048576 : Int) < (L : Int)) = false := decide_eq_false (by omega)
                  by_cases hx2 : x' + (L : Int) ≤ 1048576
                  · go_wp2
                    go_round
                    case rel => exact ⟨j + 1, _, by omega, by go_num, rfl, by omega, by omega, hs'.snoc HL.out hL⟩
                    case measure => simp [intOf]; omega
                  · go_wp2
                    go_ret
                    exact ⟨Guarded.no, rfl⟩
                · go_wp2
                  go_ret
                  exact ⟨Guarded.no, rfl⟩
              · have hjm : j = m := by omega
                subst hjm
                go_wp2
                go_ret
                exact ⟨Guarded.yes (by first | trivial | exact ⟨hs, hs'⟩), rfl⟩
          · go_wp2
            go_ret
            exact ⟨Guarded.no, rfl⟩
        · go_wp2
          go_ret
          exact ⟨Guarded.no, rfl⟩
  · go_enter Trym.func26, Trym.ntmps26
    go_wp2
    go_ret
    exact ⟨Guarded.no, rfl⟩

set_option maxRecDepth 100000 in
set_option maxHeartbeats 1600000 in
theorem zz27_any (ad : Option Addr) (n c : Nat) (zss : List (List Int)) (ad' : Option Addr) (m c' : Nat) (yss : List (List Int)) (w : World) (hz : zss.length = n) (hx : Nest w ad zss) (hz' : yss.length = m) (hy : Nest w ad' yss) :
    Calls Trym.prog 27 #[.slice ad n c, .slice ad' m c'] w fun e w' => Guarded (Small zss n ∧ Small yss m) e ∧ w = w' := by
  have HZ : Hid (zss.length = n) := hz
  have HY : Hid (yss.length = m) := hz'
  clear hz hz'
  by_cases hn : n ≤ 1048576
  · have hd : decide ((1048576 : Int) < (n : Int)) = false := decide_eq_false (by omega)
    go_enter Trym.func27, Trym.ntmps27
    go_wp2
    go_loop [5, 6] (fun t i => ∃ (k : Nat) (x : Int), k ≤ n ∧ i = .int .i64 k ∧ t = .int .i64 x ∧ 0 ≤ x ∧ x ≤ 1048576 ∧ Small zss k) (fun _ i => n - (intOf i).toNat)
    case atStart => exact ⟨0, _, Nat.zero_le _, rfl, rfl, by omega, by omega, fun r hr => absurd hr (Nat.not_lt_zero _)⟩
    case round =>
      obtain ⟨k, x, hk, rfl, rfl, hx0, hx1, hs⟩ := hrel
      by_cases hlt : k < n
      · obtain ⟨b, off, a, c1, rfl, hlb, hc, _, _⟩ := hx k (by rw [HZ.out]; exact hlt)
        generalize hLe : lenOf zss k = L at hc
        have HL : Hid (lenOf zss k = L) := hLe
        clear hLe
        by_cases hL : L ≤ 1048576
        · have hd1 : decide ((1048576 : Int) < (L : Int)) = false := decide_eq_false (by omega)
          by_cases hx2 : x + (L : Int) ≤ 1048576
          · go_wp2
            go_round
            case rel => exact ⟨k + 1, _, by omega, by go_num, rfl, by omega, by omega, hs.snoc HL.out hL⟩
            case measure => simp [intOf]; omega
          · go_wp2
            go_ret
            exact ⟨Guarded.no, rfl⟩
        · go_wp2
          go_ret
          exact ⟨Guarded.no, rfl⟩
      · have hkn : k = n := by omega
        subst hkn
        by_cases hm : m ≤ 1048576
        · have hd2 : decide ((1048576 : Int) < (m : Int)) = false := decide_eq_false (by omega)
          by_cases hxm : x + (m : Int) ≤ 1048576
          · have hd3 : decide ((1048576 : Int) < x + (m : Int)) = false := decide_eq_false (by omega)
            go_wp2
            go_loop [5, 7] (fun t i => ∃ (j : Nat) (x : Int), j ≤ m ∧ i = .int .i64 j ∧ t = .int .i64 x ∧ 0 ≤ x ∧ x ≤ 1048576 ∧ Small yss j) (fun _ i => m - (intOf i).toNat)
            case atStart => exact ⟨0, _, Nat.zero_le _, rfl, rfl, by omega, by omega, fun r hr => absurd hr (Nat.not_lt_zero _)⟩
            case round =>
              obtain ⟨j, x', hj, rfl, rfl, hx0', hx1', hs'⟩ := hrel
              by_cases hltj : j < m
              · obtain ⟨b, off, a, c1, rfl, hlb, hc, _, _⟩ := hy j (by rw [HY.out]; exact hltj)
                generalize hLe : lenOf yss j = L at hc
                have HL : Hid (lenOf yss j = L) := hLe
                clear hLe
                by_cases hL : L ≤ 1048576
                · have hd1 : decide ((1048576 : Int) < (L : Int)) = false := decide_eq_false (by omega)
                  by_cases hx2 : x' + (L : Int) ≤ 1048576
                  · go_wp2
                    go_round
                    case rel => exact ⟨j + 1, _, by omega, by go_num, rfl, by omega, by omega, hs'.snoc HL.out hL⟩
                    case measure => simp [intOf]; omega
                  · go_wp2
                    go_ret
                    exact ⟨Guarded.no, rfl⟩
                · go_wp2
                  go_ret
                  exact ⟨Guarded.no, rfl⟩
              · have hjm : j = m := by omega
                subst hjm
                go_wp2
                go_ret
                exact ⟨Guarded.yes (by first | trivial | exact ⟨hs, hs'⟩), rfl⟩
          · go_wp2
            go_ret
            exact ⟨Guarded.no, rfl⟩
        · go_wp2
          go_ret
          exact ⟨Guarded.no, rfl⟩
  · go_enter Trym.func27, Trym.ntmps27
    go_wp2
    go_ret
    exact ⟨Guarded.no, rfl⟩

end Go.Proofs.Qxb6600466aMods

import Derived.Test.Qxb6600466aModsBatch
namespace Go.Proofs.Qxb6600466aMods
open Go.RowKit
set_option linter.unusedVariables false
set_option linter.unusedSimpArgs false
attribute [local go_sem ↓] Go.wp_at_zero Go.wp_at_succ

/-! ### Nested slices of the call's own, by their value -/
def NestV (w : World) (lo hi : Nat) (ad : Option Addr) (zss : List (List Int)) : Prop :=
  (ad = none ∧ zss = []) ∨ ∃ G, ad = some ⟨G, 0, none⟩ ∧ lo ≤ G ∧ G < hi ∧ NestB w lo hi G zss zss.length

theorem NestV.kept {w w' : World} {lo hi : Nat} {ad : Option Addr} {zss : List (List Int)} (H : NestV w lo hi ad zss) (hk : Kept w w') : NestV w' lo hi ad zss := by
  rcases H with H | ⟨G, h1, h2, h3, h4⟩
  · exact .inl H
  · exact .inr ⟨G, h1, h2, h3, h4.kept hk⟩

theorem NestV.atRow {w : World} {lo hi : Nat} {ad : Option Addr} {zss : List (List Int)} (H : NestV w lo hi ad zss) (r : Nat) (hr : r < zss.length) :
    ∃ G a, ad = some ⟨G, 0, none⟩ ∧ w.cell? ⟨G, r, none⟩ = some (.slice a (lenOf zss r) (lenOf zss r)) ∧ Row .u8 w a (rowOf zss r) ∧ (a = none → lenOf zss r = 0) := by
  rcases H with ⟨_, rfl⟩ | ⟨G, h1, h2, h3, hs, h4, h5, h6⟩
  · exact absurd hr (Nat.not_lt_zero _)
  · obtain ⟨a, e1, e2, e3⟩ := (h6 r hr).row
    exact ⟨G, a, h1, by rw [h4.cell]; exact e1, e2, e3⟩

theorem cloneNested_any (ad : Option Addr) (n cap : Nat) (zss : List (List Int)) (w : World) (hz : zss.length = n) (hn : n ≤ 65536) (hx : Nest w ad zss) (hs : Small zss n) (hnil : ad = none → n = 0) :
    Calls Trym.prog 23 #[.slice ad n cap] w fun e w' => ∃ a', e = .returned (.slice a' n n) ∧ NestV w' w.heap.size w'.heap.size a' zss ∧ Below w.heap.size w w' := by
  cases ad with
  | none =>
    have h0 := hnil rfl
    subst h0
    refine (cloneNested_nil 0 cap w).mono ?_
    rintro e w' ⟨rfl, rfl⟩
    exact ⟨none, rfl, .inl ⟨rfl, List.eq_nil_of_length_eq_zero hz⟩, Below.refl _ _⟩
  | some a =>
    refine (cloneNested_some a n cap zss w hz hn hx hs).mono ?_
    rintro e w' ⟨rfl, hb, hbel⟩
    refine ⟨_, rfl, .inr ⟨w.heap.size, rfl, Nat.le_refl _, ?_, ?_⟩, hbel⟩
    · obtain ⟨hs', h1, _⟩ := hb
      exact h1.lt
    · rw [hz]
      obtain ⟨hs', h1, h2, h3⟩ := hb
      exact ⟨hs', h1, h2, fun r hr => (h3 r hr).mono (Nat.le_succ _) (Nat.le_refl _) (fun b cs _ _ h => h)⟩

/-! ### The batch -/
theorem own_form {w : World} {base e size : Nat} {v : Value} {n : Nat} {xs : List Value} (h : w.ownsRow base e size v n xs) : ∃ a cap, v = .slice a n cap := by
  rcases h.2 with ⟨rfl, rfl⟩ | ⟨g, cap, cur, rfl, _⟩
  · exact ⟨none, 0, rfl⟩
  · exact ⟨_, cap, rfl⟩

/-- The batch's struct lies at B; it holds i changes, each with its key's and its value's bytes, in blocks from lo on. -/
def BatchB (w : World) (B base lo : Nat) (kss vss : List (List Int)) (i : Nat) : Prop :=
  ∃ v xs, Blk w B 37 [v] ∧ w.ownsRow base 44 2 v i xs ∧ ∀ j, j < i → ∃ kv vv, xs[2 * j]? = some kv ∧ xs[2 * j + 1]? = some vv ∧ Ent w lo (rowOf kss j) (rowOf vss j) kv vv

theorem BatchB.next {w w' : World} {B base lo : Nat} {kss vss : List (List Int)} {i : Nat} {v nv kv vv : Value} {xs : List Value} (hown : w.ownsRow base 44 2 v i xs) (hE : ∀ j, j < i → ∃ kv vv, xs[2 * j]? = some kv ∧ xs[2 * j + 1]? = some vv ∧ Ent w lo (rowOf kss j) (rowOf vss j) kv vv)
    (h1 : Blk w' B 37 [nv]) (h2 : w'.ownsRow base 44 2 nv (i + 1) (xs ++ [kv, vv])) (h3 : Ent w' w.heap.size (rowOf kss i) (rowOf vss i) kv vv) (hk : Kept w w') (hlo : lo ≤ w.heap.size) : BatchB w' B base lo kss vss (i + 1) := by
  have hl : xs.length = i * 2 := hown.1
  refine ⟨nv, _, h1, h2, ?_⟩
  intro j hj
  by_cases e : j < i
  · obtain ⟨a, b, e1, e2, e3⟩ := hE j e
    exact ⟨a, b, by rw [List.getElem?_append_left (by omega)]; exact e1, by rw [List.getElem?_append_left (by omega)]; exact e2, e3.kept hk⟩
  · obtain rfl : j = i := by omega
    refine ⟨kv, vv, by rw [List.getElem?_append_right (by omega)]; simp [hl, Nat.mul_comm], by rw [List.getElem?_append_right (by omega)]; simp [hl, Nat.mul_comm], ?_⟩
    obtain ⟨p, q1, q2, q3, q4⟩ := h3
    exact ⟨p, Nat.le_trans hlo q1, q2, q3, q4⟩

theorem Ent.keyOf {w : World} {lo : Nat} {key val : List Int} {kv vv : Value} (h : Ent w lo key val kv vv) : ∃ a, kv = .slice a key.length key.length ∧ Row .u8 w a key := by
  obtain ⟨p, _, h2, h3, _⟩ := h
  refine ⟨_, h3, ?_⟩
  have e : u8s (key ++ val) = u8s key ++ u8s val := by simp [u8s]
  rw [e] at h2
  exact h2.row

theorem nth_app_right (xs ys : List Int) (j : Nat) : nth (xs ++ ys) (xs.length + j) = nth ys j := by
  simp [nth, List.getElem?_append_right]

theorem Ent.valOf {w : World} {lo : Nat} {key val : List Int} {kv vv : Value} (h : Ent w lo key val kv vv) : ∃ a, vv = .slice a val.length val.length ∧ Row .u8 w a val := by
  obtain ⟨p, _, h2, _, h4⟩ := h
  by_cases h0 : val.length = 0
  · rw [if_pos h0] at h4
    exact ⟨none, by rw [h4, h0], fun j hj => by omega⟩
  · rw [if_neg h0] at h4
    refine ⟨_, h4, ?_⟩
    intro j hj
    refine ⟨p, key.length, rfl, h2.lt, ?_⟩
    rw [h2.cell, u8s_get _ _ (by simp; omega), nth_app_right]

/-! ### The batch, read -/
theorem batchLen_any (B : Nat) (a : Option Addr) (n cap : Nat) (w : World) (hB : Blk w B 37 [.slice a n cap]) : Calls Trym.prog 31 #[.pointer (some ⟨B, 0, none⟩)] w fun e w' => e = .returned (.int .i64 n) ∧ w = w' := by
  have hc : w.cell? ⟨B, 0, none⟩ = some (.slice a n cap) := by rw [hB.cell]; rfl
  go_enter Trym.func31, Trym.ntmps31
  go_wp2
  go_ret
  exact ⟨rfl, rfl⟩

set_option maxHeartbeats 800000 in
theorem batchChange_any (B g n cap i : Nat) (kv vv : Value) (w : World) (hB : Blk w B 37 [.slice (some ⟨g, 0, none⟩) n cap]) (hi : i < n) (hn : n ≤ 65536) (hk : w.cell? ⟨g, i * 2, none⟩ = some kv) (hv : w.cell? ⟨g, i * 2 + 1, none⟩ = some vv) :
    Calls Trym.prog 28 #[.pointer (some ⟨B, 0, none⟩), .int .i64 i] w fun e w' => e = .returned (.tuple #[kv, vv]) ∧ ∃ q, w' = w.drewN q := by
  have hc : w.cell? ⟨B, 0, none⟩ = some (.slice (some ⟨g, 0, none⟩) n cap) := by rw [hB.cell]; rfl
  have h1 : (0 : Int) ≤ (i : Int) := by omega
  have h2 : (i : Int) < (n : Int) := by omega
  go_enter Trym.func28, Trym.ntmps28
  go_wp2
  go_quiet (fail)
  go_wp2
  go_ret2
  exact ⟨rfl, _, rfl⟩

theorem eqB_self (xs : List Int) : eqB xs xs = true := by simp [eqB]

theorem own_cells {w : World} {base : Nat} {a : Option Addr} {n cap : Nat} {xs : List Value} (h : w.ownsRow base 44 2 (.slice a n cap) n xs) (h0 : 0 < n) : ∃ g, a = some ⟨g, 0, none⟩ ∧ ∀ j, j < n * 2 → w.cell? ⟨g, j, none⟩ = xs[j]? := by
  obtain ⟨g, cap', e, _, _⟩ := h.form h0
  simp only [Value.slice.injEq] at e
  obtain ⟨rfl, _, rfl⟩ := e
  exact ⟨g, rfl, fun j hj => h.cellAt j hj⟩

set_option maxRecDepth 100000 in
set_option maxHeartbeats 1600000 in
theorem batchHolds_any (B base lo : Nat) (kss vss : List (List Int)) (ka : Option Addr) (kn kc : Nat) (va : Option Addr) (vn vc n lo1 hi1 lo2 hi2 : Nat) (w : World) (hb : BatchB w B base lo kss vss n) (hn : n ≤ 65536)
    (hk : NestV w lo1 hi1 ka kss) (hkl : kss.length = kn) (hkn : n ≤ kn) (hv : NestV w lo2 hi2 va vss) (hvl : vss.length = vn) (hvn : n ≤ vn) (hks : Small kss n) (hvs : Small vss n) :
    Calls Trym.prog 25 #[.pointer (some ⟨B, 0, none⟩), .slice ka kn kc, .slice va vn vc, .int .i64 n] w fun e w' => e = .returned (.bool true) ∧ ∃ q, w' = w.drewN q := by
  obtain ⟨v, xs, hB, hown, hE⟩ := hb
  obtain ⟨a, cap, rfl⟩ := own_form hown
  have HK : Hid (kss.length = kn) := hkl
  have HV : Hid (vss.length = vn) := hvl
  clear hkl hvl
  go_enter Trym.func25, Trym.ntmps25
  go_wp2_with (go_at_call 31; refine (batchLen_any _ _ _ _ _ hB).mono ?_; rintro e w' ⟨rfl, rfl⟩)
  go_loopw [9] (fun i wr => ∃ k : Nat, k ≤ n ∧ i = .int .i64 k ∧ ∃ q, wr = w.drewN q) (fun i _ => n - (intOf i).toNat)
  case atStart => exact ⟨0, Nat.zero_le _, rfl, 0, rfl⟩
  case round =>
    obtain ⟨k, hk1, rfl, q, rfl⟩ := hrel
    by_cases hlt : k < n
    · obtain ⟨g, rfl, hcells⟩ := own_cells hown (by omega)
      obtain ⟨kv, vv, ek, ev, hent⟩ := hE k hlt
      obtain ⟨Gk, ak, rfl, hck, hrk, _⟩ := hk.atRow k (by rw [HK.out]; omega)
      obtain ⟨Gv, av, rfl, hcv, hrv, _⟩ := hv.atRow k (by rw [HV.out]; omega)
      have c1 : w.cell? ⟨g, k * 2, none⟩ = some kv := by rw [hcells _ (by omega), Nat.mul_comm]; exact ek
      have c2 : w.cell? ⟨g, k * 2 + 1, none⟩ = some vv := by rw [hcells _ (by omega), Nat.mul_comm]; exact ev
      obtain ⟨a1, rfl, hr1⟩ := hent.keyOf
      obtain ⟨a2, rfl, hr2⟩ := hent.valOf
      have hl1 : lenOf kss k ≤ 1048576 := hks k hlt
      have hl2 : lenOf vss k ≤ 1048576 := hvs k hlt
      have BQ : ∀ q, Below w.heap.size w (w.drewN q) := fun q => below_drewN (Below.refl _ _) q
      have CH : ∀ q, Calls Trym.prog 28 #[.pointer (some ⟨B, 0, none⟩), .int .i64 k] (w.drewN q) _ := fun q => batchChange_any B g n cap k _ _ (w.drewN q) hB hlt hn c1 c2
      clear hE hcells ek ev
      go_wp2_with fail
      refine (CH _).mono ?_
      rintro e w1 ⟨rfl, q1, rfl⟩
      go_wp2_with fail
      refine (eqBytes_any a1 _ _ (rowOf kss k) ak _ _ (rowOf kss k) _ rfl (by unfold maxLen; exact Nat.le_trans hl1 (by omega)) (hr1.below (BQ _)) rfl (by unfold maxLen; exact Nat.le_trans hl1 (by omega)) (hrk.below (BQ _))).mono ?_
      rintro e w2 ⟨rfl, q2, rfl⟩
      rw [eqB_self]
      go_wp2_with fail
      refine (eqBytes_any a2 _ _ (rowOf vss k) av _ _ (rowOf vss k) _ rfl (by unfold maxLen; exact Nat.le_trans hl2 (by omega)) (hr2.below (BQ _)) rfl (by unfold maxLen; exact Nat.le_trans hl2 (by omega)) (hrv.below (BQ _))).mono ?_
      rintro e w3 ⟨rfl, q3, rfl⟩
      rw [eqB_self]
      go_wp2
      go_roundw
      case rel => exact ⟨k + 1, by omega, by go_num, _, rfl⟩
      case measure => simp [intOf]; omega
    · go_wp2
      go_ret
      exact ⟨rfl, q, rfl⟩

end Go.Proofs.Qxb6600466aMods

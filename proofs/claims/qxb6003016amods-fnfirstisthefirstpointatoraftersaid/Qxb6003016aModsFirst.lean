import Derived.Test.Qxb6003016aModsAt
import Derived.Test.Qxb6003016aModsClone
namespace Go.Proofs.Qxb6003016aMods
open Go.RowKit
set_option linter.unusedVariables false
set_option linter.unusedSimpArgs false

/-- The index of the first point at or after p, wrapping past the last to the first: what 'first' returns, out of an index that is the first at or after p or the number of points. -/
def wrapAt (n i : Nat) : Nat := if i = n then 0 else i

theorem size_any (C : Nat) (a0 a1 a2 a4 a5 : Value) (oa : Option Addr) (n oc : Nat) (w : World) (hC : Blk w C 33 [a0, a1, a2, .slice oa n oc, a4, a5]) : Calls Trym.prog 11 #[.pointer (some ⟨C, 0, none⟩)] w fun e w' => e = .returned (.int .i64 n) ∧ w = w' := by
  have hc : w.cell? ⟨C, 3, none⟩ = some (.slice oa n oc) := by rw [hC.cell]; rfl
  go_enter Trym.func11, Trym.ntmps11
  go_wp2
  go_ret
  exact ⟨rfl, rfl⟩

set_option maxHeartbeats 800000 in
theorem first_wide (C : Nat) (wa : Option Addr) (n wc : Nat) (a1 a4 a5 : Value) (oa : Option Addr) (oc : Nat) (zs : List Int) (p : Int) (w : World) (hC : Blk w C 33 [.slice wa n wc, a1, .slice none 0 0, .slice oa n oc, a4, a5])
    (hz : zs.length = n) (hn : n ≤ 1048576) (hrow : Row .u32 w wa zs) (hb : ∀ j, 0 ≤ nth zs j ∧ nth zs j ≤ 4294967295) (hp : 0 ≤ p ∧ p ≤ 4294967295) (hs : Srt zs) :
    Calls Trym.prog 8 #[.pointer (some ⟨C, 0, none⟩), .int .u32 p] w fun e w' => ∃ i : Nat, e = .returned (.int .i64 (wrapAt n i : Nat)) ∧ FG zs p i ∧ ∃ q, w' = w.drewN q := by
  have he := fun w => Lib.run_eql_slice_nil (P := Trym.prog) w 22 24 none 0 0 0 0 Trym.underlying22
  have c0 : w.cell? ⟨C, 0, none⟩ = some (.slice wa n wc) := by rw [hC.cell]; rfl
  have c2 : w.cell? ⟨C, 2, none⟩ = some (.slice none 0 0) := by rw [hC.cell]; rfl
  have HZ : Hid (zs.length = n) := hz
  clear hz
  go_enter Trym.func8, Trym.ntmps8
  go_wp2_with fail
  refine (at_9 wa n wc zs p w HZ.out hn hrow hb hp hs).mono ?_
  rintro e w' ⟨i, rfl, G, rfl⟩
  have hin : i ≤ n := by have := G.1; rw [HZ.out] at this; exact this
  go_wp2_with fail
  refine (size_any C _ _ _ _ _ oa n oc w hC).mono ?_
  rintro e w' ⟨rfl, rfl⟩
  by_cases hi : i = n
  · have hq : ((i : Int) == (n : Int)) = true := by rw [beq_iff_eq]; omega
    have HI : Hid (i = n) := hi
    clear hi
    go_wp2
    go_ret
    exact ⟨i, by rw [wrapAt, if_pos HI.out]; rfl, G, 0, rfl⟩
  · have hq : ((i : Int) == (n : Int)) = false := by rw [beq_eq_false_iff_ne]; omega
    go_wp2
    go_ret
    exact ⟨i, by rw [wrapAt, if_neg hi]; rfl, G, 0, rfl⟩

theorem nth_drop (xs : List Int) (f j : Nat) : nth (xs.drop f) j = nth xs (f + j) := by simp [nth]
theorem nth_take' {zs : List Int} {n j : Nat} (h : j < n) : nth (zs.take n) j = nth zs j := by
  simp [nth, List.getElem?_take, h]
theorem Row.dropOf {k : IntKind} {w : World} {b off f : Nat} {zs : List Int} (h : Row k w (some ⟨b, off, none⟩) zs) {ao : Option Addr} (hao : f < zs.length → ao = some ⟨b, off + f, none⟩) : Row k w ao (zs.drop f) := by
  intro j hj
  rw [List.length_drop] at hj
  obtain ⟨b', off', e, h1, h2⟩ := h (f + j) (by omega)
  cases e
  refine ⟨b, off + f, hao (by omega), h1, ?_⟩
  rw [nth_drop, ← h2]
  congr 2
  omega
theorem Row.takeOf {k : IntKind} {w : World} {ad : Option Addr} {m : Nat} {zs : List Int} (h : Row k w ad zs) : Row k w ad (zs.take m) := by
  intro j hj
  rw [List.length_take] at hj
  rw [nth_take' (by omega)]
  exact h j (by omega)


theorem wrap16 (p : Int) : IntKind.u16.wrap p = p % 65536 := by simp [IntKind.wrap, IntKind.bits, IntKind.signed]

set_option maxRecDepth 100000 in
set_option maxHeartbeats 1600000 in
theorem first_narrow (C : Nat) (a0 a4 a5 : Value) (N : Nat) (n nc : Nat) (S sl sc : Nat) (oa : Option Addr) (oc : Nat) (nar sts : List Int) (hi : Nat) (s e : Nat) (p lo : Int) (w : World)
    (hC : Blk w C 33 [a0, .slice (some ⟨N, 0, none⟩) n n, .slice (some ⟨S, 0, none⟩) sl sc, .slice oa n oc, a4, a5])
    (hzn : nar.length = n) (hn : n ≤ 1048576) (hrn : Row .u16 w (some ⟨N, 0, none⟩) nar) (hzs : sts.length = sl) (hsl : hi + 1 < sl) (hsl2 : sl ≤ 1048576) (hrs : Row .u32 w (some ⟨S, 0, none⟩) sts)
    (hp : 0 ≤ p ∧ p ≤ 4294967295) (hhi : p / 65536 = (hi : Int)) (hlo : p % 65536 = lo) (hhi2 : hi < 65536) (h1 : nth sts hi = (s : Int)) (h2 : nth sts (hi + 1) = (e : Int)) (hse : s ≤ e) (hen : e ≤ n)
    (hb : ∀ j, 0 ≤ nth ((nar.drop s).take (e - s)) j ∧ nth ((nar.drop s).take (e - s)) j ≤ 65535) (hsr : Srt ((nar.drop s).take (e - s))) :
    Calls Trym.prog 8 #[.pointer (some ⟨C, 0, none⟩), .int .u32 p] w fun ee w' => ∃ i : Nat, ee = .returned (.int .i64 (wrapAt n (s + i) : Nat)) ∧ FG ((nar.drop s).take (e - s)) lo i ∧ ∃ q, w' = w.drewN q := by
  have he := fun w => Lib.run_eql_slice_nil (P := Trym.prog) w 22 24 (some ⟨S, 0, none⟩) sl sc 0 0 Trym.underlying22
  have c1 : w.cell? ⟨C, 1, none⟩ = some (.slice (some ⟨N, 0, none⟩) n n) := by rw [hC.cell]; rfl
  have c2 : w.cell? ⟨C, 2, none⟩ = some (.slice (some ⟨S, 0, none⟩) sl sc) := by rw [hC.cell]; rfl
  have cs : w.cell? ⟨S, hi, none⟩ = some (.int .u32 s) := by
    obtain ⟨b, off, e0, _, hc⟩ := hrs hi (by omega)
    cases e0
    rw [h1, Nat.zero_add] at hc
    exact hc
  have ce : w.cell? ⟨S, hi + 1, none⟩ = some (.int .u32 e) := by
    obtain ⟨b, off, e0, _, hc⟩ := hrs (hi + 1) (by omega)
    cases e0
    rw [h2, Nat.zero_add] at hc
    exact hc
  have HZ : Hid (nar.length = n) := hzn
  have HHI : Hid (p / 65536 = (hi : Int)) := hhi
  have HLO : Hid (p % 65536 = lo) := hlo
  clear hzn hzs h1 h2 hhi hlo
  go_enter Trym.func8, Trym.ntmps8
  go_wp2
  rw [HHI.out]
  have i0 : (0 : Int) ≤ (hi : Int) := by omega
  have i1 : (hi : Int) < (sl : Int) := by omega
  have i2 : (hi : Int) + 1 < (sl : Int) := by omega
  have i3 : (0 : Int) ≤ (hi : Int) + 1 := by omega
  have i4 : ((hi : Int) + 1).toNat = hi + 1 := by omega
  have i5 : IntKind.u32.wrap ((hi : Int) + 1) = (hi : Int) + 1 := by rw [IntKind.wrap_u32]; omega
  have E16 : Hid (IntKind.u16.wrap p = lo) := by unfold Hid; rw [wrap16]; exact HLO.out
  have hlo2 : 0 ≤ lo ∧ lo ≤ 65535 := by have := HLO.out; omega
  go_quiet (fail)
  by_cases hns : s < n
  · go_wp2_with fail
    rw [E16.out]
    refine (at_10 _ (e - s) _ ((nar.drop s).take (e - s)) lo _ (by rw [List.length_take, List.length_drop, HZ.out]; omega) (by omega) (((hrn.below (below_drewN (Below.refl _ _) nq)).dropOf (by intro _; simp)).takeOf) hb hlo2 hsr).mono ?_
    rintro e0 w' ⟨i, rfl, G, rfl⟩
    have hin : i ≤ e - s := by have := G.1; rw [List.length_take] at this; omega
    go_wp2_with fail
    refine (size_any C _ _ _ _ _ oa n oc (w.drewN nq) hC).mono ?_
    rintro e0 w' ⟨rfl, rfl⟩
    by_cases hi : s + i = n
    · have hq : ((s : Int) + (i : Int) == (n : Int)) = true := by rw [beq_iff_eq]; omega
      have HI : Hid (s + i = n) := hi
      clear hi
      go_wp2
      go_ret
      exact ⟨i, by rw [wrapAt, if_pos HI.out]; rfl, G, nq, rfl⟩
    · have hq : ((s : Int) + (i : Int) == (n : Int)) = false := by rw [beq_eq_false_iff_ne]; omega
      go_wp2
      go_ret
      exact ⟨i, by rw [wrapAt, if_neg hi]; simp, G, nq, rfl⟩
  · have hns2 : n ≤ s := by omega
    go_wp2_with fail
    rw [E16.out]
    refine (at_10 _ (e - s) _ ((nar.drop s).take (e - s)) lo _ (by rw [List.length_take, List.length_drop, HZ.out]; omega) (by omega) (((hrn.below (below_drewN (Below.refl _ _) nq)).dropOf (by intro h; rw [HZ.out] at h; omega)).takeOf) hb hlo2 hsr).mono ?_
    rintro e0 w' ⟨i, rfl, G, rfl⟩
    have hin : i ≤ e - s := by have := G.1; rw [List.length_take] at this; omega
    go_wp2_with fail
    refine (size_any C _ _ _ _ _ oa n oc (w.drewN nq) hC).mono ?_
    rintro e0 w' ⟨rfl, rfl⟩
    by_cases hi : s + i = n
    · have hq : ((s : Int) + (i : Int) == (n : Int)) = true := by rw [beq_iff_eq]; omega
      have HI : Hid (s + i = n) := hi
      clear hi
      go_wp2
      go_ret
      exact ⟨i, by rw [wrapAt, if_pos HI.out]; rfl, G, nq, rfl⟩
    · have hq : ((s : Int) + (i : Int) == (n : Int)) = false := by rw [beq_eq_false_iff_ne]; omega
      go_wp2
      go_ret
      exact ⟨i, by rw [wrapAt, if_neg hi]; simp, G, nq, rfl⟩

/-! ### ZZFirst: the circle made of the given fields -/
set_option maxHeartbeats 800000 in
theorem zzFirst_wide (wa : Option Addr) (n wc : Nat) (na : Option Addr) (nl nc : Nat) (oa : Option Addr) (oc : Nat) (zs : List Int) (p : Int) (w : World)
    (hz : zs.length = n) (hn : n ≤ 1048576) (hrow : Row .u32 w wa zs) (hb : ∀ j, 0 ≤ nth zs j ∧ nth zs j ≤ 4294967295) (hp : 0 ≤ p ∧ p ≤ 4294967295) (hs : Srt zs) :
    Calls Trym.prog 7 #[.slice wa n wc, .slice na nl nc, .slice none 0 0, .slice oa n oc, .int .u32 p] w fun e w' => ∃ i : Nat, e = .returned (.int .i64 (wrapAt n i : Nat)) ∧ FG zs p i ∧ Below w.heap.size w w' := by
  have HZ : Hid (zs.length = n) := hz
  clear hz
  go_enter Trym.func7, Trym.ntmps7
  go_wp2_with fail
  refine (first_wide _ wa n wc _ _ _ oa oc zs p _ (Blk.alloc w 33 [_, _, _, _, _, _]) HZ.out hn (hrow.below ((Below.refl _ _).alloc (Nat.le_refl _) _)) hb hp hs).mono ?_
  rintro e w' ⟨i, rfl, G, q, rfl⟩
  go_wp2
  go_ret
  exact ⟨i, rfl, G, below_drewN ((Below.refl _ _).alloc (Nat.le_refl _) _) q⟩

set_option maxHeartbeats 800000 in
theorem zzFirst_narrow (wa : Option Addr) (wl wc : Nat) (N : Nat) (n : Nat) (S sl sc : Nat) (oa : Option Addr) (oc : Nat) (nar sts : List Int) (hi : Nat) (s e : Nat) (p lo : Int) (w : World)
    (hzn : nar.length = n) (hn : n ≤ 1048576) (hrn : Row .u16 w (some ⟨N, 0, none⟩) nar) (hzs : sts.length = sl) (hsl : hi + 1 < sl) (hsl2 : sl ≤ 1048576) (hrs : Row .u32 w (some ⟨S, 0, none⟩) sts)
    (hp : 0 ≤ p ∧ p ≤ 4294967295) (hhi : p / 65536 = (hi : Int)) (hlo : p % 65536 = lo) (hhi2 : hi < 65536) (h1 : nth sts hi = (s : Int)) (h2 : nth sts (hi + 1) = (e : Int)) (hse : s ≤ e) (hen : e ≤ n)
    (hb : ∀ j, 0 ≤ nth ((nar.drop s).take (e - s)) j ∧ nth ((nar.drop s).take (e - s)) j ≤ 65535) (hsr : Srt ((nar.drop s).take (e - s))) :
    Calls Trym.prog 7 #[.slice wa wl wc, .slice (some ⟨N, 0, none⟩) n n, .slice (some ⟨S, 0, none⟩) sl sc, .slice oa n oc, .int .u32 p] w fun ee w' => ∃ i : Nat, ee = .returned (.int .i64 (wrapAt n (s + i) : Nat)) ∧ FG ((nar.drop s).take (e - s)) lo i ∧ Below w.heap.size w w' := by
  have F : ∀ a0 a4 a5, Calls Trym.prog 8 #[.pointer (some ⟨w.heap.size, 0, none⟩), .int .u32 p] (w.alloc (.cells #[a0, .slice (some ⟨N, 0, none⟩) n n, .slice (some ⟨S, 0, none⟩) sl sc, .slice oa n oc, a4, a5] 33)) _ := fun a0 a4 a5 =>
    first_narrow w.heap.size a0 a4 a5 N n n S sl sc oa oc nar sts hi s e p lo _ (Blk.alloc w 33 [_, _, _, _, _, _]) hzn hn (hrn.below ((Below.refl _ _).alloc (Nat.le_refl _) _)) hzs hsl hsl2 (hrs.below ((Below.refl _ _).alloc (Nat.le_refl _) _)) hp hhi hlo hhi2 h1 h2 hse hen hb hsr
  clear hzn hzs hhi hlo h1 h2
  go_enter Trym.func7, Trym.ntmps7
  go_wp2_with fail
  refine (F _ _ _).mono ?_
  rintro e0 w' ⟨i, rfl, G, q, rfl⟩
  go_wp2
  go_ret
  exact ⟨i, rfl, G, below_drewN ((Below.refl _ _).alloc (Nat.le_refl _) _) q⟩

end Go.Proofs.Qxb6003016aMods

import Derived.Test.Qxb6600466aModsSpec
import Derived.Deep.AppendLies
import Derived.Laws.CopyOwn
namespace Go.Proofs.Qxb6600466aMods
open Go.RowKit
set_option linter.unusedVariables false
set_option linter.unusedSimpArgs false
attribute [local go_sem ↓] Go.wp_at_zero Go.wp_at_succ

theorem Trym.info44 : (Trym.prog.info? 44).map (fun i => (i.zero, i.size, i.bytes)) = some (some (.agg #[.slice none 0 0, .slice none 0 0]), 2, 48) := by kernel_rfl
theorem Trym.size5 : (Trym.prog.info? 5).map (·.size) = some 1 := by kernel_rfl

theorem u8s_oneCell (zs : List Int) : ∀ v ∈ u8s zs, v.oneCell' = true := ints_oneCell .u8 zs

theorem row_src {w : World} {ad : Option Addr} {zs : List Int} (h : Row .u8 w ad zs) (h0 : 0 < zs.length) : ∃ a, ad = some a ∧ ∀ j v, (u8s zs)[j]? = some v → w.cell? (a.add j) = some v := by
  obtain ⟨b, off, rfl, _, _⟩ := h 0 h0
  refine ⟨_, rfl, ?_⟩
  intro j v hv
  have hj : j < zs.length := by
    have := (List.getElem?_eq_some_iff.1 hv).1
    simpa [u8s] using this
  rw [u8s_get _ _ hj] at hv
  cases hv
  obtain ⟨b', off', e, _, hc⟩ := h j hj
  cases e
  rw [Addr.add_lit]
  exact hc

/-- Every block that is neither a batch's struct (37) nor a row of changes (44) is kept. -/
def Kept (w w' : World) : Prop := ∀ b e cs, e ≠ 37 → e ≠ 44 → Blk w b e cs → Blk w' b e cs

theorem Kept.trans {a b c : World} (h : Kept a b) (k : Kept b c) : Kept a c := fun x e cs h1 h2 hb => k x e cs h1 h2 (h x e cs h1 h2 hb)
theorem Kept.refl (w : World) : Kept w w := fun _ _ _ _ _ h => h
theorem Kept.of_below {w w' : World} (h : Below w.heap.size w w') : Kept w w' := fun _ _ _ _ _ hb => hb.of_below h hb.lt

/-- What the batch holds of one put. -/
def Ent (w : World) (lo : Nat) (key val : List Int) (kv vv : Value) : Prop :=
  ∃ p, lo ≤ p ∧ Blk w p 5 (u8s (key ++ val)) ∧ kv = .slice (some ⟨p, 0, none⟩) key.length key.length ∧ vv = if val.length = 0 then .slice none 0 0 else .slice (some ⟨p, key.length, none⟩) val.length val.length

theorem Ent.kept {w w' : World} {lo : Nat} {key val : List Int} {kv vv : Value} (h : Ent w lo key val kv vv) (hk : Kept w w') : Ent w' lo key val kv vv := by
  obtain ⟨p, h1, h2, h3, h4⟩ := h
  exact ⟨p, h1, hk p 5 _ (by decide) (by decide) h2, h3, h4⟩

theorem Blk.ne_own {w : World} {b e : Nat} {cs : List Value} {base : Nat} {v : Value} {n : Nat} {xs : List Value} (h : Blk w b e cs) (he : e ≠ 44) (ho : w.ownsRow base 44 2 v n xs) : v.ownBlock ≠ some b := by
  rcases ho.2 with ⟨rfl, _⟩ | ⟨g, cap, cur, rfl, _, hg, _⟩
  · simp [Value.ownBlock]
  · intro e'
    simp only [Value.ownBlock, Option.some.injEq] at e'
    subst e'
    unfold Blk at h
    rw [hg] at h
    simp only [Option.some.injEq, Obj.cells.injEq] at h
    exact he h.2.1.symm

theorem Blk.grown {w w' : World} {b e : Nat} {cs : List Value} {row : Option Nat} (h : Blk w b e cs) (hg : w.grownBy w' row) (hne : row ≠ some b) : Blk w' b e cs := by
  unfold Blk
  rw [hg.block b h.lt (fun e => hne e.symm)]
  exact h

theorem Blk.setFar {w : World} {b e g j : Nat} {cs : List Value} {u : Value} (h : Blk w b e cs) (hne : b ≠ g) : Blk (w.setCell ⟨g, j, none⟩ u) b e cs := by
  unfold Blk
  rw [Below.heap_setCell _ _ _ _ (by exact hne)]
  exact h

theorem Blk.type_ne {w : World} {b b' e e' : Nat} {cs cs' : List Value} (h : Blk w b e cs) (h' : Blk w b' e' cs') (hne : e ≠ e') : b ≠ b' := by
  intro e0
  subst e0
  unfold Blk at h h'
  rw [h] at h'
  simp only [Option.some.injEq, Obj.cells.injEq] at h'
  exact hne h'.2.1

theorem own_set {w : World} {base b : Nat} {v u : Value} {n : Nat} {xs : List Value} (h : w.ownsRow base 44 2 v n xs) (hne : v.ownBlock ≠ some b) (j : Nat) : (w.setCell ⟨b, j, none⟩ u).ownsRow base 44 2 v n xs := by
  refine h.kept (row := some b) ⟨rfl, rfl, rfl, by simp, ?_⟩ (.inr hne)
  intro k _ hk
  exact Below.heap_setCell _ _ _ _ (fun e => hk (by rw [e]))

theorem put_post {w w3 w5 : World} {B i base : Nat} {v nv : Value} {xs news : List Value} {cs : List Value} {o2 : Obj} (hB : Blk w B 37 [v]) (hown : w.ownsRow base 44 2 v i xs) (hbB : base ≤ B) (hbel3 : Below w.heap.size w w3) (hP : Blk w3 w.heap.size 5 cs)
    (hg : (w3.alloc o2).drew.grownBy w5 v.ownBlock) (hown5 : w5.ownsRow base 44 2 nv (i + 1) (xs ++ news)) :
    Blk (w5.setCell ⟨B, 0, none⟩ nv) B 37 [nv] ∧ (w5.setCell ⟨B, 0, none⟩ nv).ownsRow base 44 2 nv (i + 1) (xs ++ news) ∧ Blk (w5.setCell ⟨B, 0, none⟩ nv) w.heap.size 5 cs ∧ Kept w (w5.setCell ⟨B, 0, none⟩ nv) ∧ Below base w (w5.setCell ⟨B, 0, none⟩ nv) := by
  have hB3 : Blk w3 B 37 [v] := hB.of_below hbel3 hB.lt
  have hown3 : w3.ownsRow base 44 2 v i xs := by
    refine hown.kept (row := none) ⟨hbel3.os, hbel3.tape, hbel3.output, hbel3.size, fun k hk _ => hbel3.block k hk⟩ ?_
    cases v.ownBlock <;> simp
  have step : ∀ b e ds, e ≠ 44 → Blk w3 b e ds → Blk w5 b e ds := by
    intro b e ds he h
    have h4 : Blk (w3.alloc o2).drew b e ds := h.later o2
    exact h4.grown hg (Blk.ne_own h4 he (hown3.alloc o2).drew)
  have hB5 := step B 37 [v] (by decide) hB3
  have hneB := hB5.ne_own (by decide) hown5
  have hP5 := step _ 5 _ (by decide) hP
  refine ⟨?_, own_set hown5 hneB 0, hP5.setFar (hP5.type_ne hB5 (by decide)), ?_, ?_⟩
  · exact hB5.set 0 nv
  · intro b e ds h37 h44 h
    have h5 := step b e ds h44 (h.of_below hbel3 h.lt)
    exact h5.setFar (h5.type_ne hB5 h37)
  · have hb0 : base ≤ w.heap.size := Nat.le_trans hbB (Nat.le_of_lt hB.lt)
    have b4 : Below base w (w3.alloc o2).drew := ((hbel3.mono hb0).alloc (Nat.le_trans hb0 hbel3.size) o2).drew
    have b5 : Below base w w5 := b4.grown hg (by simp; have := hbel3.size; omega) (fun k e => (hown.lt k e).1)
    exact b5.setCell hbB _

/-- The two splices of Put fill the pair's row. -/
theorem splice_two (n m : Nat) (z : Value) (K V : List Value) (hK : K.length = n) (hV : V.length = m) : splice (splice (List.replicate (n + m) z) 0 K) n V = K ++ V := by
  unfold splice
  simp only [List.take_zero, List.nil_append, Nat.zero_add]
  have e1 : (K ++ (List.replicate (n + m) z).drop K.length).take n = K := by rw [← hK]; simp
  have e2 : (K ++ (List.replicate (n + m) z).drop K.length).drop (n + V.length) = [] := by
    apply List.drop_eq_nil_of_le
    simp [hK, hV]
  rw [e1, e2, List.append_nil]

theorem splice_one (n : Nat) (z : Value) (K : List Value) (hK : K.length = n) : splice (List.replicate n z) 0 K = K := by
  unfold splice
  rw [List.drop_eq_nil_of_le (by simp [hK])]
  simp

set_option maxRecDepth 100000 in
set_option maxHeartbeats 3200000 in
theorem put_val (B i base : Nat) (v : Value) (xs : List Value) (ka : Option Addr) (n kc : Nat) (key : List Int) (va : Option Addr) (m vc : Nat) (val : List Int) (w : World)
    (hB : Blk w B 37 [v]) (hown : w.ownsRow base 44 2 v i xs) (hbB : base ≤ B) (hi : i ≤ 65536) (hz : key.length = n) (hn : n ≤ 1048576) (hkey : Row .u8 w ka key) (hz' : val.length = m) (hm : m ≤ 1048576) (hval : Row .u8 w va val) (hm0 : 0 < m) :
    Calls Trym.prog 24 #[.pointer (some ⟨B, 0, none⟩), .slice ka n kc, .slice va m vc] w fun e w' => e = .returned (.tuple #[]) ∧ ∃ nv kv vv, Blk w' B 37 [nv] ∧ w'.ownsRow base 44 2 nv (i + 1) (xs ++ [kv, vv]) ∧ Ent w' w.heap.size key val kv vv ∧ Kept w w' ∧ Below base w w' := by
  obtain ⟨i5, hi5, hz0, hz1, hz2⟩ := info_parts Trym.info5
  obtain ⟨i44, hi44, hy0, hy1, hy2⟩ := info_parts Trym.info44
  have HZ : Hid (key.length = n) := hz
  have HY : Hid (val.length = m) := hz'
  clear hz hz'
  go_enter Trym.func24, Trym.ntmps24
  go_wp2_with (at_make; refine wpList_make_blk _ rfl _ _ 22 rfl 5 i5 (.int .u8 0) 1 Trym.underlying22 hi5 hz0 hz1 hz2 rfl _ _ _ _ (n + m) (n + m) rfl rfl (by omega) (by omega) (by omega) (by omega) (by unfold maxLen; omega) ?_)
  intro w1 hb1 hbel1 hs1
  obtain ⟨K1, HK1⟩ : ∃ K1, Hid (K1 = u8s key) := ⟨_, rfl⟩
  obtain ⟨V1, HV1⟩ : ∃ V1, Hid (V1 = u8s val) := ⟨_, rfl⟩
  go_wp2_with (refine wpList_copy_splice rfl (.tmp 14) (.tmp 15) 22 22 rfl 5 Trym.underlying22 Trym.size5 _ _ _ _ _ _ rfl rfl w.heap.size 0 (List.replicate (n + m) (.int .u8 0)) 5 hb1 K1 (by rw [HK1.out, u8s_len, HZ.out]; exact (Nat.min_eq_left (by omega)).symm) (by intro h; rw [HK1.out, u8s_len] at h; rw [HK1.out]; exact ⟨rfl, row_src (hkey.below hbel1) h⟩) (by rw [HK1.out, u8s_len, HZ.out]; simp) (by rw [HK1.out]; exact u8s_oneCell _) w.heap.size w hbel1 (Nat.le_refl _) ?_)
  intro w2 HG2 hbel2
  go_wp2_with (refine wpList_copy_splice rfl (.tmp 20) (.tmp 21) 22 22 rfl 5 Trym.underlying22 Trym.size5 _ _ _ _ _ _ rfl rfl w.heap.size n (splice (List.replicate (n + m) (.int .u8 0)) 0 K1) 5 HG2.out V1 (by rw [HV1.out, u8s_len, HY.out]; exact (Nat.min_eq_left (by omega)).symm) (by intro h; rw [HV1.out, u8s_len] at h; rw [HV1.out]; exact ⟨by simp, row_src (hval.below hbel2) h⟩) (by rw [length_splice _ _ _ (by rw [HK1.out, u8s_len, HZ.out]; simp), HV1.out, u8s_len, HY.out]; simp) (by rw [HV1.out]; exact u8s_oneCell _) w.heap.size w hbel2 (Nat.le_refl _) ?_)
  intro w3 HG3 hbel3
  have hP : Blk w3 w.heap.size 5 (u8s (key ++ val)) := by
    have h3 := HG3.out
    rw [splice_two n m _ K1 V1 (by rw [HK1.out, u8s_len, HZ.out]) (by rw [HV1.out, u8s_len, HY.out]), HK1.out, HV1.out] at h3
    simpa [Blk, u8s] using h3
  have hB3 : Blk w3 B 37 [v] := hB.of_below hbel3 hB.lt
  have hown3 : w3.ownsRow base 44 2 v i xs := by
    refine hown.kept (row := none) ⟨hbel3.os, hbel3.tape, hbel3.output, hbel3.size, fun k hk _ => hbel3.block k hk⟩ ?_
    cases v.ownBlock <;> simp
  have hneB : v.ownBlock ≠ some B := hB.ne_own (by decide) hown
  clear HG3 HG2 hb1 hbel1 hbel2 hs1
  go_wp2
  have hbel4 := hbel3.alloc hbel3.size (.cells #[.slice (some ⟨w.heap.size, 0, none⟩) n n, .slice (some ⟨w.heap.size, n, none⟩) m m] 44)
  have hC4 := Blk.alloc w3 44 [.slice (some ⟨w.heap.size, 0, none⟩) n n, .slice (some ⟨w.heap.size, n, none⟩) m m]
  have hB4 := hB3.later (.cells #[.slice (some ⟨w.heap.size, 0, none⟩) n n, .slice (some ⟨w.heap.size, n, none⟩) m m] 44)
  have hP4 := hP.later (.cells #[.slice (some ⟨w.heap.size, 0, none⟩) n n, .slice (some ⟨w.heap.size, n, none⟩) m m] 44)
  have hown4 := hown3.alloc (.cells #[.slice (some ⟨w.heap.size, 0, none⟩) n n, .slice (some ⟨w.heap.size, n, none⟩) m m] 44)
  have hneC : B ≠ w3.heap.size := Nat.ne_of_lt hB3.lt
  have hvC : v.ownBlock ≠ some w3.heap.size := fun e => Nat.lt_irrefl _ (hown3.lt _ e).2
  clear hB3 hP hown3 hbel3
  generalize w3.alloc (.cells #[.slice (some ⟨w.heap.size, 0, none⟩) n n, .slice (some ⟨w.heap.size, n, none⟩) m m] 44) = w4 at *
  generalize w3.heap.size = C at *
  have cB : w4.cell? ⟨B, 0, none⟩ = some v := by rw [hB4.cell]; rfl
  have fB : w4.frozen? ⟨B, 0, none⟩ = false := hB4.frozen 0
  have c0 : w4.cell? ⟨C, 0, none⟩ = some (.slice (some ⟨w.heap.size, 0, none⟩) n n) := by rw [hC4.cell]; rfl
  have c1 : w4.cell? ⟨C, 1, none⟩ = some (.slice (some ⟨w.heap.size, n, none⟩) m m) := by rw [hC4.cell]; rfl
  have hlB := hB4.lt
  have hlC := hC4.lt
  have fA : ∀ o, (w4.alloc o).drew.frozen? ⟨B, 0, none⟩ = false := fun o => (hB4.later o).frozen 0
  have cA : ∀ o, (w4.alloc o).drew.cell? ⟨B, 0, none⟩ = some v := fun o => (hB4.later o).cell 0
  have n1 := World.new_ne w4 _ cB
  have n2 := World.new_ne w4 _ c0
  go_region_law ((refine step_append_lies _ (by rfl) _ _ _ (by rfl) base 44 i44 _ 2 48 Trym.underlying35 hi44 hy0 hy1 hy2 rfl (by omega) v i xs (by rfl) ((hown4.alloc _).drew) ⟨w4.heap.size, 0, none⟩ 1 1 [.slice (some ⟨w.heap.size, 0, none⟩) n n, .slice (some ⟨w.heap.size, n, none⟩) m m] (by rfl) (by rfl) (World.news_of_block (cs := #[.slice (some ⟨w.heap.size, 0, none⟩) n n, .slice (some ⟨w.heap.size, n, none⟩) m m]) (t := 44) (fr := (0, 0)) (heap_alloc_new w4 _)) (by simp [Value.oneCell']) (by omega) (by unfold maxLen; omega) (by omega) (by simp; have := hbel4.size; have := hB.lt; omega) (w4.heap.size + 1) (by simp) ?_; intro gg cap w5 hown5 hgrow hat hlt; have cB5 : w5.cell? ⟨B, 0, none⟩ = some v := (hgrow.cell_far ⟨B, 0, none⟩ (by simp; omega) (Ne.symm hneB)).trans (cA _); have fB5 : w5.frozen? ⟨B, 0, none⟩ = false := (hgrow.frozen_far ⟨B, 0, none⟩ (by simp; omega) (Ne.symm hneB)).trans (fA _)))
  all_goals
    have R := put_post hB hown hbB hbel4 hP4 hgrow hown5
    go_end0
    refine ⟨rfl, _, _, _, R.1, R.2.1, ⟨w.heap.size, Nat.le_refl _, R.2.2.1, ?_, ?_⟩, R.2.2.2.1, R.2.2.2.2⟩
    · rw [HZ.out]
    · rw [HZ.out, HY.out, if_neg (by omega)]

set_option maxRecDepth 100000 in
set_option maxHeartbeats 3200000 in
theorem put_nil (B i base : Nat) (v : Value) (xs : List Value) (ka : Option Addr) (n kc : Nat) (key : List Int) (va : Option Addr) (vc : Nat) (w : World)
    (hB : Blk w B 37 [v]) (hown : w.ownsRow base 44 2 v i xs) (hbB : base ≤ B) (hi : i ≤ 65536) (hz : key.length = n) (hn : n ≤ 1048576) (hkey : Row .u8 w ka key) :
    Calls Trym.prog 24 #[.pointer (some ⟨B, 0, none⟩), .slice ka n kc, .slice va 0 vc] w fun e w' => e = .returned (.tuple #[]) ∧ ∃ nv kv vv, Blk w' B 37 [nv] ∧ w'.ownsRow base 44 2 nv (i + 1) (xs ++ [kv, vv]) ∧ Ent w' w.heap.size key [] kv vv ∧ Kept w w' ∧ Below base w w' := by
  obtain ⟨i5, hi5, hz0, hz1, hz2⟩ := info_parts Trym.info5
  obtain ⟨i44, hi44, hy0, hy1, hy2⟩ := info_parts Trym.info44
  have HZ : Hid (key.length = n) := hz
  clear hz
  go_enter Trym.func24, Trym.ntmps24
  go_wp2_with (at_make; refine wpList_make_blk _ rfl _ _ 22 rfl 5 i5 (.int .u8 0) 1 Trym.underlying22 hi5 hz0 hz1 hz2 rfl _ _ _ _ n n rfl rfl rfl rfl (by omega) (by omega) (by unfold maxLen; omega) ?_)
  intro w1 hb1 hbel1 hs1
  obtain ⟨K1, HK1⟩ : ∃ K1, Hid (K1 = u8s key) := ⟨_, rfl⟩
  go_wp2_with (refine wpList_copy_splice rfl (.tmp 14) (.tmp 15) 22 22 rfl 5 Trym.underlying22 Trym.size5 _ _ _ _ _ _ rfl rfl w.heap.size 0 (List.replicate n (.int .u8 0)) 5 hb1 K1 (by rw [HK1.out, u8s_len, HZ.out]; exact (Nat.min_eq_left (by omega)).symm) (by intro h; rw [HK1.out, u8s_len] at h; rw [HK1.out]; exact ⟨rfl, row_src (hkey.below hbel1) h⟩) (by rw [HK1.out, u8s_len, HZ.out]; simp) (by rw [HK1.out]; exact u8s_oneCell _) w.heap.size w hbel1 (Nat.le_refl _) ?_)
  intro w2 HG2 hbel2
  have hP2 : Blk w2 w.heap.size 5 (u8s (key ++ [])) := by
    have h3 := HG2.out
    rw [splice_one n _ K1 (by rw [HK1.out, u8s_len, HZ.out]), HK1.out] at h3
    rw [List.append_nil]
    exact h3
  go_wp2_with (refine wpList_copy_nothing rfl (.tmp 20) (.tmp 21) 22 22 rfl 5 Trym.underlying22 Trym.size5 _ _ _ _ _ _ rfl rfl (by simp) ?_)
  have hB3 : Blk w2 B 37 [v] := hB.of_below hbel2 hB.lt
  have hown3 : w2.ownsRow base 44 2 v i xs := by
    refine hown.kept (row := none) ⟨hbel2.os, hbel2.tape, hbel2.output, hbel2.size, fun k hk _ => hbel2.block k hk⟩ ?_
    cases v.ownBlock <;> simp
  have hneB : v.ownBlock ≠ some B := hB.ne_own (by decide) hown
  clear HG2 hb1 hbel1 hs1
  go_wp2
  have hbel4 := hbel2.alloc hbel2.size (.cells #[.slice (some ⟨w.heap.size, 0, none⟩) n n, .slice none 0 0] 44)
  have hC4 := Blk.alloc w2 44 [.slice (some ⟨w.heap.size, 0, none⟩) n n, .slice none 0 0]
  have hB4 := hB3.later (.cells #[.slice (some ⟨w.heap.size, 0, none⟩) n n, .slice none 0 0] 44)
  have hP4 := hP2.later (.cells #[.slice (some ⟨w.heap.size, 0, none⟩) n n, .slice none 0 0] 44)
  have hown4 := hown3.alloc (.cells #[.slice (some ⟨w.heap.size, 0, none⟩) n n, .slice none 0 0] 44)
  have hneC : B ≠ w2.heap.size := Nat.ne_of_lt hB3.lt
  have hvC : v.ownBlock ≠ some w2.heap.size := fun e => Nat.lt_irrefl _ (hown3.lt _ e).2
  clear hB3 hP2 hown3 hbel2
  generalize w2.alloc (.cells #[.slice (some ⟨w.heap.size, 0, none⟩) n n, .slice none 0 0] 44) = w4 at *
  generalize w2.heap.size = C at *
  have cB : w4.cell? ⟨B, 0, none⟩ = some v := by rw [hB4.cell]; rfl
  have fB : w4.frozen? ⟨B, 0, none⟩ = false := hB4.frozen 0
  have c0 : w4.cell? ⟨C, 0, none⟩ = some (.slice (some ⟨w.heap.size, 0, none⟩) n n) := by rw [hC4.cell]; rfl
  have c1 : w4.cell? ⟨C, 1, none⟩ = some (.slice none 0 0) := by rw [hC4.cell]; rfl
  have hlB := hB4.lt
  have hlC := hC4.lt
  have fA : ∀ o, (w4.alloc o).drew.frozen? ⟨B, 0, none⟩ = false := fun o => (hB4.later o).frozen 0
  have cA : ∀ o, (w4.alloc o).drew.cell? ⟨B, 0, none⟩ = some v := fun o => (hB4.later o).cell 0
  have n1 := World.new_ne w4 _ cB
  have n2 := World.new_ne w4 _ c0
  go_region_law ((refine step_append_lies _ (by rfl) _ _ _ (by rfl) base 44 i44 _ 2 48 Trym.underlying35 hi44 hy0 hy1 hy2 rfl (by omega) v i xs (by rfl) ((hown4.alloc _).drew) ⟨w4.heap.size, 0, none⟩ 1 1 [.slice (some ⟨w.heap.size, 0, none⟩) n n, .slice none 0 0] (by rfl) (by rfl) (World.news_of_block (cs := #[.slice (some ⟨w.heap.size, 0, none⟩) n n, .slice none 0 0]) (t := 44) (fr := (0, 0)) (heap_alloc_new w4 _)) (by simp [Value.oneCell']) (by omega) (by unfold maxLen; omega) (by omega) (by simp; have := hbel4.size; have := hB.lt; omega) (w4.heap.size + 1) (by simp) ?_; intro gg cap w5 hown5 hgrow hat hlt; have cB5 : w5.cell? ⟨B, 0, none⟩ = some v := (hgrow.cell_far ⟨B, 0, none⟩ (by simp; omega) (Ne.symm hneB)).trans (cA _); have fB5 : w5.frozen? ⟨B, 0, none⟩ = false := (hgrow.frozen_far ⟨B, 0, none⟩ (by simp; omega) (Ne.symm hneB)).trans (fA _)))
  all_goals
    have R := put_post hB hown hbB hbel4 hP4 hgrow hown5
    go_end0
    refine ⟨rfl, _, _, _, R.1, R.2.1, ⟨w.heap.size, Nat.le_refl _, R.2.2.1, ?_, ?_⟩, R.2.2.2.1, R.2.2.2.2⟩
    · rw [HZ.out]
    · rfl

/-- Put, whatever key and value. -/
theorem put_any (B i base : Nat) (v : Value) (xs : List Value) (ka : Option Addr) (n kc : Nat) (key : List Int) (va : Option Addr) (m vc : Nat) (val : List Int) (w : World)
    (hB : Blk w B 37 [v]) (hown : w.ownsRow base 44 2 v i xs) (hbB : base ≤ B) (hi : i ≤ 65536) (hz : key.length = n) (hn : n ≤ 1048576) (hkey : Row .u8 w ka key) (hz' : val.length = m) (hm : m ≤ 1048576) (hval : Row .u8 w va val) :
    Calls Trym.prog 24 #[.pointer (some ⟨B, 0, none⟩), .slice ka n kc, .slice va m vc] w fun e w' => e = .returned (.tuple #[]) ∧ ∃ nv kv vv, Blk w' B 37 [nv] ∧ w'.ownsRow base 44 2 nv (i + 1) (xs ++ [kv, vv]) ∧ Ent w' w.heap.size key val kv vv ∧ Kept w w' ∧ Below base w w' := by
  by_cases h0 : m = 0
  · subst h0
    obtain rfl : val = [] := List.eq_nil_of_length_eq_zero hz'
    exact put_nil B i base v xs ka n kc key va vc w hB hown hbB hi hz hn hkey
  · exact put_val B i base v xs ka n kc key va m vc val w hB hown hbB hi hz hn hkey hz' hm hval (by omega)

end Go.Proofs.Qxb6600466aMods

import Derived.Test.Qxb6600466aModsNest
namespace Go.Proofs.Qxb6600466aMods
open Go.RowKit
set_option linter.unusedVariables false
set_option linter.unusedSimpArgs false
attribute [local go_sem ↓] Go.wp_at_zero Go.wp_at_succ

theorem Trym.info22 : (Trym.prog.info? 22).map (fun i => (i.zero, i.size, i.bytes)) = some (some (.slice none 0 0), 1, 24) := by kernel_rfl

/-! ### Clones of nested slices -/
/-- One header of a clone: nil and empty, or a block of its own that holds the bytes. -/
def HdC (w : World) (lo hi : Nat) (h : Option Value) (z : List Int) : Prop :=
  ∃ a, h = some (.slice a z.length z.length) ∧ ((a = none ∧ z = []) ∨ ∃ g, a = some ⟨g, 0, none⟩ ∧ lo ≤ g ∧ g < hi ∧ Blk w g 5 (u8s z))

theorem HdC.mono {w w' : World} {lo hi lo' hi' : Nat} {h : Option Value} {z : List Int} (H : HdC w lo hi h z) (hl : lo' ≤ lo) (hh : hi ≤ hi') (hk : ∀ b cs, lo ≤ b → b < hi → Blk w b 5 cs → Blk w' b 5 cs) : HdC w' lo' hi' h z := by
  obtain ⟨a, h1, h2⟩ := H
  refine ⟨a, h1, ?_⟩
  rcases h2 with h2 | ⟨g, e, h3, h4, h5⟩
  · exact .inl h2
  · exact .inr ⟨g, e, Nat.le_trans hl h3, Nat.lt_of_lt_of_le h4 hh, hk g _ h3 h4 h5⟩

theorem HdC.kept {w w' : World} {lo hi : Nat} {h : Option Value} {z : List Int} (H : HdC w lo hi h z) (hk : Kept w w') : HdC w' lo hi h z :=
  H.mono (Nat.le_refl _) (Nat.le_refl _) (fun b cs _ _ hb => hk b 5 cs (by decide) (by decide) hb)

theorem HdC.row {w : World} {lo hi : Nat} {h : Option Value} {z : List Int} (H : HdC w lo hi h z) : ∃ a, h = some (.slice a z.length z.length) ∧ Row .u8 w a z ∧ (a = none → z.length = 0) := by
  obtain ⟨a, h1, h2⟩ := H
  refine ⟨a, h1, ?_⟩
  rcases h2 with ⟨rfl, rfl⟩ | ⟨g, rfl, h3, h4, h5⟩
  · exact ⟨fun j hj => absurd hj (Nat.not_lt_zero _), fun _ => rfl⟩
  · exact ⟨Blk.row (tl := []) (by simpa using h5), fun e => by cases e⟩

/-- A block of headers, each of them a clone. -/
def NestB (w : World) (lo hi G : Nat) (zss : List (List Int)) (k : Nat) : Prop :=
  ∃ hs, Blk w G 22 hs ∧ hs.length = zss.length ∧ ∀ r, r < k → HdC w lo hi hs[r]? (rowOf zss r)

theorem NestB.kept {w w' : World} {lo hi G : Nat} {zss : List (List Int)} {k : Nat} (H : NestB w lo hi G zss k) (hk : Kept w w') : NestB w' lo hi G zss k := by
  obtain ⟨hs, h1, h2, h3⟩ := H
  exact ⟨hs, hk G 22 hs (by decide) (by decide) h1, h2, fun r hr => (h3 r hr).kept hk⟩

/-- A clone of one slice, nil or not, by its block. -/
theorem cloneBytes_blk (ad : Option Addr) (n cap : Nat) (zs : List Int) (w : World) (hz : zs.length = n) (hn : n ≤ 1048576) (hrow : Row .u8 w ad zs) (hnil : ad = none → n = 0) :
    Calls Trym.prog 13 #[.slice ad n cap] w fun e w' => ∃ a', e = .returned (.slice a' n n) ∧ Below w.heap.size w w' ∧ ((a' = none ∧ zs = []) ∨ (a' = some ⟨w.heap.size, 0, none⟩ ∧ Blk w' w.heap.size 5 (u8s zs))) := by
  cases ad with
  | none =>
    have h0 := hnil rfl
    subst h0
    refine (cloneBytes_nil 0 cap w).mono ?_
    rintro e w' ⟨rfl, rfl⟩
    exact ⟨none, rfl, Below.refl _ _, .inl ⟨rfl, List.eq_nil_of_length_eq_zero hz⟩⟩
  | some a =>
    refine (cloneBytes_some a n cap zs w hz hn hrow).mono ?_
    rintro e w' ⟨rfl, hb, hbel, hs⟩
    exact ⟨_, rfl, hbel, .inr ⟨rfl, hb⟩⟩

/-- One more header is laid. -/
theorem NestB.next {w w1 : World} {lo G : Nat} {zss : List (List Int)} {k n : Nat} {a' : Option Addr} (H : NestB w lo w.heap.size G zss k) (hz : zss.length = n) (hk : k < n) (hlo : lo ≤ w.heap.size) (hb : Below w.heap.size w w1)
    (hc : (a' = none ∧ rowOf zss k = []) ∨ (a' = some ⟨w.heap.size, 0, none⟩ ∧ Blk w1 w.heap.size 5 (u8s (rowOf zss k)))) :
    (∃ u, w1.cell? ⟨G, k, none⟩ = some u) ∧ w1.frozen? ⟨G, k, none⟩ = false ∧ NestB (w1.setCell ⟨G, k, none⟩ (.slice a' (lenOf zss k) (lenOf zss k))) lo (w1.setCell ⟨G, k, none⟩ (.slice a' (lenOf zss k) (lenOf zss k))).heap.size G zss (k + 1) := by
  obtain ⟨hs, h1, h2, h3⟩ := H
  have g1 : Blk w1 G 22 hs := h1.of_below hb h1.lt
  have hkl : k < hs.length := by omega
  have far : ∀ b cs, Blk w1 b 5 cs → Blk (w1.setCell ⟨G, k, none⟩ (.slice a' (lenOf zss k) (lenOf zss k))) b 5 cs := fun b cs h => h.setFar (h.type_ne g1 (by decide))
  refine ⟨⟨hs[k], by rw [g1.cell]; simp [hkl]⟩, g1.frozen k, hs.set k (.slice a' (lenOf zss k) (lenOf zss k)), g1.set k _, by simpa using h2, ?_⟩
  intro r hr
  by_cases e : r = k
  · subst e
    refine ⟨a', by simp [hkl, lenOf], ?_⟩
    rcases hc with hc | ⟨e1, e2⟩
    · exact .inl hc
    · exact .inr ⟨w.heap.size, e1, hlo, by simpa using e2.lt, far _ _ e2⟩
  · have := (h3 r (by omega)).mono (w' := w1.setCell ⟨G, k, none⟩ (.slice a' (lenOf zss k) (lenOf zss k))) (lo' := lo) (hi' := (w1.setCell ⟨G, k, none⟩ (.slice a' (lenOf zss k) (lenOf zss k))).heap.size) (Nat.le_refl _) (by simpa using hb.size) (fun b cs _ hlt hbk => far b cs (hbk.of_below hb hlt))
    rw [List.getElem?_set_ne (fun h => e h.symm)]
    exact this

set_option maxRecDepth 100000 in
set_option maxHeartbeats 800000 in
theorem cloneNested_some (a : Addr) (n cap : Nat) (zss : List (List Int)) (w : World) (hz : zss.length = n) (hn : n ≤ 65536) (hx : Nest w (some a) zss) (hs : Small zss n) :
    Calls Trym.prog 23 #[.slice (some a) n cap] w fun e w' => e = .returned (.slice (some ⟨w.heap.size, 0, none⟩) n n) ∧ NestB w' (w.heap.size + 1) w'.heap.size w.heap.size zss n ∧ Below w.heap.size w w' := by
  have he := fun w => Lib.run_eql_slice_nil (P := Trym.prog) w 31 22 (some a) n cap 0 0 Trym.underlying31
  obtain ⟨i0, hi, hz0, hz1, hz2⟩ := info_parts Trym.info22
  have HZ : Hid (zss.length = n) := hz
  clear hz
  go_enter Trym.func23, Trym.ntmps23
  go_wp2_with (at_make; refine wpList_make_blk _ rfl _ _ 31 rfl 22 i0 (.slice none 0 0) 24 Trym.underlying31 hi hz0 hz1 hz2 rfl _ _ _ _ n n rfl rfl rfl rfl (Nat.le_refl _) (by omega) (by unfold maxLen; omega) ?_)
  intro w0 hb0 hbel0 hs0
  have H0 : NestB w0 (w.heap.size + 1) w0.heap.size w.heap.size zss 0 := ⟨_, hb0, by rw [HZ.out]; simp, fun r hr => absurd hr (Nat.not_lt_zero _)⟩
  have HS0 : w.heap.size + 1 ≤ w0.heap.size := by omega
  clear hs0 hb0
  go_wp2
  go_loopw [4] (fun i wr => ∃ k : Nat, k ≤ n ∧ i = .int .i64 k ∧ NestB wr (w.heap.size + 1) wr.heap.size w.heap.size zss k ∧ w.heap.size + 1 ≤ wr.heap.size ∧ Below w.heap.size w wr) (fun i _ => n - (intOf i).toNat)
  case atStart => exact ⟨0, Nat.zero_le _, rfl, H0, HS0, hbel0⟩
  case round =>
    clear H0 HS0 hbel0
    obtain ⟨k, hk, rfl, H, hsz, hbel⟩ := hrel
    by_cases hlt : k < n
    · obtain ⟨b, off, a1, c1, ha, hlb, hc, hrow, hnil⟩ := (hx.below hbel) k (by rw [HZ.out]; exact hlt)
      cases ha
      go_wp2_with fail
      refine (cloneBytes_blk a1 (lenOf zss k) c1 (rowOf zss k) wr rfl (hs k hlt) hrow hnil).mono ?_
      rintro e w1 ⟨a', rfl, hb1, hd1⟩
      obtain ⟨⟨u, hcell⟩, hfro, H'⟩ := H.next HZ.out hlt hsz hb1 hd1
      have B1 : Below w.heap.size w (w1.setCell ⟨w.heap.size, k, none⟩ (.slice a' (lenOf zss k) (lenOf zss k))) := (hbel.trans (hb1.mono (by omega))).setCell (Nat.le_refl _) _
      have HS1 : w.heap.size + 1 ≤ w1.heap.size := Nat.le_trans hsz hb1.size
      clear H hd1 hc hbel
      go_wp2
      go_roundw
      case rel => exact ⟨k + 1, by omega, by go_num, H', by simpa using HS1, B1⟩
      case measure => simp [intOf]; omega
    · obtain rfl : k = n := by omega
      go_wp2
      go_ret
      exact ⟨rfl, H, hbel⟩

theorem cloneNested_nil (n cap : Nat) (w : World) : Calls Trym.prog 23 #[.slice none n cap] w fun e w' => e = .returned (.slice none 0 0) ∧ w = w' := by
  have he := fun w => Lib.run_eql_slice_nil (P := Trym.prog) w 31 22 none n cap 0 0 Trym.underlying31
  go_enter Trym.func23, Trym.ntmps23
  go_wp2
  go_ret
  exact ⟨rfl, rfl⟩

end Go.Proofs.Qxb6600466aMods

import Derived.Test.Qxb6600466aModsPack
namespace Go.Proofs.Qxb6600466aMods
open Go.RowKit
set_option linter.unusedVariables false
set_option linter.unusedSimpArgs false

/-! ### The guards laid by program -/
theorem zz11_yes (ad : Option Addr) (n c : Nat) (leaf : Bool) (w : World) (hn : n ≤ 1048576) : Calls Trym.prog 11 #[.slice ad n c, .bool leaf] w fun e w' => e = .returned (.bool true) ∧ w = w' := by
  have h1 : ¬ (1048576 : Int) < (n : Int) := by omega
  go_enter Trym.func11, Trym.ntmps11
  go_wp2
  go_ret
  exact ⟨rfl, rfl⟩
theorem zz11_no (ad : Option Addr) (n c : Nat) (leaf : Bool) (w : World) (hn : ¬ n ≤ 1048576) : Calls Trym.prog 11 #[.slice ad n c, .bool leaf] w fun e w' => e = .returned (.bool false) ∧ w = w' := by
  have h1 : (1048576 : Int) < (n : Int) := by omega
  go_enter Trym.func11, Trym.ntmps11
  go_wp2
  go_ret
  exact ⟨rfl, rfl⟩
theorem zz17_yes (ad : Option Addr) (n c : Nat) (leaf : Bool) (w : World) (hn : n ≤ 1048576) : Calls Trym.prog 17 #[.slice ad n c, .bool leaf] w fun e w' => e = .returned (.bool true) ∧ w = w' := by
  have h1 : ¬ (1048576 : Int) < (n : Int) := by omega
  go_enter Trym.func17, Trym.ntmps17
  go_wp2
  go_ret
  exact ⟨rfl, rfl⟩
theorem zz17_no (ad : Option Addr) (n c : Nat) (leaf : Bool) (w : World) (hn : ¬ n ≤ 1048576) : Calls Trym.prog 17 #[.slice ad n c, .bool leaf] w fun e w' => e = .returned (.bool false) ∧ w = w' := by
  have h1 : (1048576 : Int) < (n : Int) := by omega
  go_enter Trym.func17, Trym.ntmps17
  go_wp2
  go_ret
  exact ⟨rfl, rfl⟩

/-! ### A clone, nil or not -/
theorem cloneBytes_any (ad : Option Addr) (n cap : Nat) (zs : List Int) (w : World) (hz : zs.length = n) (hn : n ≤ 1048576) (hrow : Row .u8 w ad zs) (hnil : ad = none → n = 0) :
    Calls Trym.prog 13 #[.slice ad n cap] w fun e w' => ∃ ad', e = .returned (.slice ad' n n) ∧ Row .u8 w' ad' zs ∧ Below w.heap.size w w' ∧ ∀ b off, ad' = some ⟨b, off, none⟩ → w.heap.size ≤ b ∧ b < w'.heap.size := by
  cases ad with
  | none =>
    have h0 := hnil rfl
    subst h0
    refine (cloneBytes_nil 0 cap w).mono ?_
    rintro e w' ⟨rfl, rfl⟩
    exact ⟨none, rfl, fun j hj => by omega, Below.refl _ _, fun b off e => by cases e⟩
  | some a =>
    refine (cloneBytes_some a n cap zs w hz hn hrow).mono ?_
    rintro e w' ⟨rfl, hb, hbel, hs⟩
    refine ⟨_, rfl, Blk.row (tl := []) (by simpa using hb), hbel, ?_⟩
    intro b off e
    cases e
    exact ⟨Nat.le_refl _, by omega⟩

/-! ### append of one element, within the capacity, onto a block that is known whole -/
theorem wpList_append_blk {P : Program} {w : World} {ops : Array Oper} {rest : List Oper} {o : Oper} {a : Act} {Q : Exit → Act → World → Prop}
    (hg : o.guard = none) (s x : Operand) (t : TypeId) (hop : o.op = Op.call { callee := Callee.builtin Builtin.append, args := #[s, x], argTypes := #[t, t] })
    (e : TypeId) (i : TypeInfo) (h1 : P.underlying t = some (.slice e)) (h2 : P.info? e = some i) (h4 : i.size = 1)
    (g n cap : Nat) (cs : List Value) (hs : a.eval s = .slice (some ⟨g, 0, none⟩) n cap) (m : Nat) (v : Value) (hx : a.eval x = .slice (some ⟨m, 0, none⟩) 1 1) (hv : Blk w m e [v]) (h1c : v.oneCell' = true)
    (hb : Blk w g e cs) (hroom : n + 1 ≤ cap) (hlen : n < cs.length)
    (hK : ∀ w', Blk w' g e (cs.set n v) → w.grownBy w' (some g) → wpList P ops Q rest (a.put o.dst (.slice (some ⟨g, 0, none⟩) (n + 1) cap)) w') :
    wpList P ops Q (o :: rest) a w := by
  refine wpList_plain hg fun K hK' => ?_
  have hrun := run_append_room_cells (P := P) w t o.type e i h1 h2 g 0 n cap ⟨m, 0, none⟩ 1 1 [v] (by simp [h4]) ?_ (by simpa using h1c) hroom ?_ ?_
  · have hw : w.setCells g (0 + n * i.size) [v] = w.setCell ⟨g, n, none⟩ v := by simp [World.setCells, h4]
    rw [hw] at hrun
    unfold Oper.wp
    simp [execOp, hop, resolve, invoke, builtin, hs, hx, hrun, Result.andThen]
    refine hK' _ _ (hK _ (hb.set n v) ⟨rfl, rfl, rfl, by simp, ?_⟩)
    intro k _ hne
    exact Below.heap_setCell _ _ _ _ (fun e => hne (by rw [e]))
  · intro j u hu
    match j, hu with
    | 0, hu =>
      simp only [List.getElem?_cons_zero, Option.some.injEq] at hu
      subst hu
      rw [Addr.add_lit, hv.cell]
      rfl
  · intro j hj
    have h0 : j = 0 := by simp at hj; omega
    subst h0
    rw [hb.cell, h4]
    simp
    omega
  · intro j hj
    exact hb.frozen _

end Go.Proofs.Qxb6600466aMods

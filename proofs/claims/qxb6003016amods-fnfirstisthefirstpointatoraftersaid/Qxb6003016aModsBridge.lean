import Derived.Test.Qxb6003016aModsLawC
import Derived.Test.Qxb6003016aModsLawD
import Derived.OpenShut
namespace Go.Proofs.Qxb6003016aMods
open Go.RowKit
set_option linter.unusedVariables false
set_option linter.unusedSimpArgs false

/-- For every input: true; nothing old has turned. -/
theorem law_all (wa : Option Addr) (wl wc : Nat) (na : Option Addr) (nl nc : Nat) (sa : Option Addr) (sl sc : Nat) (oa : Option Addr) (n oc : Nat) (p : Int) (w : World) (wide nar sts own : List Int) (hwz : wide.length = wl) (hwr : Row .u32 w wa wide) (hwb : ∀ j, 0 ≤ nth wide j ∧ nth wide j ≤ 4294967295) (hwn : wa = none → wl = 0) (hnz : nar.length = nl) (hnr : Row .u16 w na nar) (hnb : ∀ j, 0 ≤ nth nar j ∧ nth nar j ≤ 65535) (hnn : na = none → nl = 0)
    (hsz : sts.length = sl) (hsr : Row .u32 w sa sts) (hsb : ∀ j, 0 ≤ nth sts j ∧ nth sts j ≤ 4294967295) (hsn : sa = none → sl = 0) (hoz : own.length = n) (hor : Row .u16 w oa own) (hon : oa = none → n = 0) (hp : 0 ≤ p ∧ p ≤ 4294967295) :
    Calls Trym.prog 3 #[.slice wa wl wc, .slice na nl nc, .slice sa sl sc, .slice oa n oc, .int .u32 p] w fun e w' => e = .returned (.bool true) ∧ Below w.heap.size w w' := by
  by_cases h : 262144 < wl ∨ 524288 < nl ∨ 262144 < sl ∨ 524288 < n ∨ 1048576 < 4 * wl + 2 * nl + 4 * sl + 2 * n
  · exact law_early wa wl wc na nl nc sa sl sc oa n oc p w h
  · by_cases hs : sa = none
    · exact law_wide wa wl wc na nl nc sa sl sc oa n oc p w wide nar sts own hwz hwr hwb hwn hnz hnr hnb hnn hsz hsr hsb hsn hoz hor hon hp (by omega) (by omega) (by omega) (by omega) (by omega) hs
    · exact law_narrow wa wl wc na nl nc sa sl sc oa n oc p w wide nar sts own hwz hwr hwb hwn hnz hnr hnb hnn hsz hsr hsb hsn hoz hor hon hp (by omega) (by omega) (by omega) (by omega) (by omega) hs

theorem nth_take {zs : List Int} {n j : Nat} (h : j < n) : nth (zs.take n) j = nth zs j := by
  simp [nth, List.getElem?_take, h]

/-- From what the shell is told of a slice of integers to what the walks ask. -/
theorem bridge {k : IntKind} {w : World} {a : Option Addr} {len cap : Nat} {zs : List Int}
    (h : (a = none ∧ len = 0 ∧ cap = 0 ∧ zs = []) ∨ ∃ x, a = some x ∧ len ≤ cap ∧ cap ≤ maxLen ∧ zs.length = cap ∧ (∀ i, i < zs.length → w.cell? (x.add i) = some (.int k (zs.getD i 0))) ∧ ∀ n ∈ zs, (Lit.int k n).wf = true) :
    (zs.take len).length = len ∧ Row k w a (zs.take len) ∧ (a = none → len = 0) ∧ ∀ n ∈ zs.take len, (Lit.int k n).wf = true := by
  rcases h with ⟨rfl, rfl, rfl, rfl⟩ | ⟨x, rfl, h1, h2, h3, h4, h5⟩
  · exact ⟨rfl, fun j hj => by simp at hj, fun _ => rfl, fun n hn => by simp at hn⟩
  · refine ⟨by simp; omega, ?_, (fun e => by cases e), fun n hn => h5 n (List.mem_of_mem_take hn)⟩
    intro j hj
    simp only [List.length_take] at hj
    obtain ⟨b, off, spot⟩ := x
    have hspot : spot = none := by simpa [Addr.add] using World.cell?_spot (h4 0 (by omega))
    subst hspot
    have hc := h4 j (by omega)
    rw [Addr.add_lit] at hc
    refine ⟨b, off, rfl, World.block_lt_of_cell? w _ hc, ?_⟩
    rw [nth_take (by omega)]
    exact hc

theorem u32_of {zs : List Int} (h : ∀ n ∈ zs, (Lit.int .u32 n).wf = true) : ∀ j, 0 ≤ nth zs j ∧ nth zs j ≤ 4294967295 := by
  intro j
  by_cases hj : j < zs.length
  · rw [nth_get hj]
    have := bounds_u32 (h _ (List.getElem_mem hj))
    omega
  · simp [nth, Nat.not_lt.1 hj]
theorem u16_of {zs : List Int} (h : ∀ n ∈ zs, (Lit.int .u16 n).wf = true) : ∀ j, 0 ≤ nth zs j ∧ nth zs j ≤ 65535 := by
  intro j
  by_cases hj : j < zs.length
  · rw [nth_get hj]
    have := bounds_u16 (h _ (List.getElem_mem hj))
    omega
  · simp [nth, Nat.not_lt.1 hj]

end Go.Proofs.Qxb6003016aMods

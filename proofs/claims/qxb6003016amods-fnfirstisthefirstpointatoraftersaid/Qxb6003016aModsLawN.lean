import Derived.Test.Qxb6003016aModsPlainN
namespace Go.Proofs.Qxb6003016aMods
open Go.RowKit
set_option linter.unusedVariables false
set_option linter.unusedSimpArgs false

/-- ZZFirst over narrow positions, said of the whole positions. -/
theorem narrow_call (wa : Option Addr) (wl : Nat) (N nl S sl : Nat) (oa : Option Addr) (n : Nat) (nar sts xs : List Int) (p : Int) (w : World)
    (hnl : nar.length = nl) (hx2 : nl = n) (hn : n ≤ 524288) (hnr : Row .u16 w (some ⟨N, 0, none⟩) nar) (hnb : ∀ j, 0 ≤ nth nar j ∧ nth nar j ≤ 65535) (hsl : sts.length = sl) (hs65 : sl = 65537) (hsr : Row .u32 w (some ⟨S, 0, none⟩) sts) (hsb : ∀ j, 0 ≤ nth sts j ∧ nth sts j ≤ 4294967295)
    (hm : Mon sts 65536) (h0 : nth sts 0 = 0) (hN : nth sts 65536 = (n : Int)) (hxl : xs.length = n) (hf : Fill sts nar xs (n : Int)) (hp : 0 ≤ p ∧ p ≤ 4294967295) (hs : Srt xs) :
    Calls Trym.prog 7 #[.slice wa wl wl, .slice (some ⟨N, 0, none⟩) nl nl, .slice (some ⟨S, 0, none⟩) sl sl, .slice oa n n, .int .u32 p] w fun e w' => ∃ i : Nat, e = .returned (.int .i64 (wrapAt n i : Nat)) ∧ FG xs p i ∧ Below w.heap.size w w' := by
  subst hx2
  obtain ⟨hi, hhi⟩ := Int.eq_ofNat_of_zero_le (show 0 ≤ p / 65536 by omega)
  have hhi2 : hi < 65536 := by omega
  obtain ⟨s, h1⟩ := Int.eq_ofNat_of_zero_le (hsb hi).1
  obtain ⟨e, h2⟩ := Int.eq_ofNat_of_zero_le (hsb (hi + 1)).1
  have hse : s ≤ e := by have := hm.le hi (hi + 1) (by omega) (by omega); omega
  have hen : e ≤ nl := by have := hm.le (hi + 1) 65536 (by omega) (by omega); omega
  have hsub : ∀ j, 0 ≤ nth ((nar.drop s).take (e - s)) j ∧ nth ((nar.drop s).take (e - s)) j ≤ 65535 := by
    intro j
    by_cases hj : j < e - s
    · rw [sub_nth hj]
      exact hnb _
    · have : nth ((nar.drop s).take (e - s)) j = 0 := by
        unfold nth
        rw [List.getD_eq_getElem?_getD, List.getElem?_eq_none (by rw [List.length_take]; omega)]
        rfl
      rw [this]
      decide
  have hsrt := narrow_srt hxl hf hs hhi2 h1 h2 hen
  refine (zzFirst_narrow wa wl wl N nl S sl sl oa nl nar sts hi s e p (p % 65536) w hnl (by omega) hnr hsl (by omega) (by omega) hsr hp hhi rfl hhi2 h1 h2 hse hen hsub hsrt).mono ?_
  rintro e0 w' ⟨i, rfl, G, b⟩
  exact ⟨s + i, rfl, narrow_law hxl hnl hm h0 hN hf hnb hp.1 hhi rfl hhi2 h1 h2 G, b⟩

end Go.Proofs.Qxb6003016aMods

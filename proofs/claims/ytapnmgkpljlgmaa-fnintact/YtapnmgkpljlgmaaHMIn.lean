/- The walk of FnIntact. -/
import Derived.Test.YtapnmgkpljlgmaaG36
set_option linter.unusedVariables false
set_option linter.unusedSimpArgs false
namespace Go.Proofs.Ytapnmgkpljlgmaa
open Go.RowKit
set_option maxRecDepth 10000 in
set_option maxHeartbeats 4000000 in
theorem FnIntact_c {v : Int} {A : Option Addr} {n c : Nat} {l : List Z3} {w : World} (h : Rd w 3 A n (z3s l)) (hn : n ≤ maxLen) :
    Calls Try.prog 13 #[.int .i64 v, .slice A n c] w (Done w) := by
  have hlen : l.length = n := by have := h.1; rw [z3s_len] at this; omega
  have hm := maxLen_int hn
  have H := Lib.hid (And.intro h hlen)
  clear h hlen hn
  by_cases hbig : 2147483647 < n
  · have hb : decide ((2147483647 : Int) < (n : Int)) = true := by rw [decide_eq_true_eq]; omega
    go_enter Try.func13, Try.ntmps13
    go_wp2
    go_ret
    exact ⟨rfl, Fr.refl _ _⟩
  · have hb : decide ((2147483647 : Int) < (n : Int)) = false := by rw [decide_eq_false_iff_not]; omega
    have HB := Lib.hid (show n < 2147483648 by omega)
    clear hbig
    go_enter Try.func13, Try.ntmps13
    go_wp2_with fail
    refine (conv_c H.out.1 HB.out).mono ?_
    rintro e w1 ⟨v1, rfl, hF⟩
    obtain ⟨A1, c1, rfl⟩ := hF.shp
    have HF := Lib.hid hF
    clear hF
    go_wp2_with fail
    refine (good_c v (n := n) (c := c1) HF.out.rd (by have := HB.out; omega)).mono ?_
    rintro e w2 ⟨rfl, hF2⟩
    have HF2 := Lib.hid (HF.out.fr.t hF2)
    clear hF2
    obtain ⟨g, hg⟩ : ∃ g, goodB v l = g := ⟨_, rfl⟩
    rw [hg]
    have HG := Lib.hid hg
    clear hg
    cases g
    · go_wp2
      go_ret
      exact ⟨rfl, HF2.out⟩
    · have HGZ := Lib.hid (goodB_z HG.out)
      go_wp2_with fail
      refine (Intact_c (H.out.1.nix HF2.out) HGZ.out).mono ?_
      rintro e w3 ⟨rfl, hF3⟩
      have HF3 := Lib.hid (HF2.out.t hF3)
      clear hF3
      go_wp2
      go_ret
      exact ⟨rfl, HF3.out⟩
end Go.Proofs.Ytapnmgkpljlgmaa

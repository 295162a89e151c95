/- The walk of FnSound. . -/
import Derived.Test.YtapnmgkpljlgmaaG30
import Derived.Test.YtapnmgkpljlgmaaG24
set_option linter.unusedVariables false
set_option linter.unusedSimpArgs false
namespace Go.Proofs.Ytapnmgkpljlgmaa
open Go.RowKit
set_option maxRecDepth 10000 in
set_option maxHeartbeats 16000000 in
theorem FnSound_c {v : Int} {A : Option Addr} {n c : Nat} {l : List Z3} {w : World} (h : Rd w 3 A n (z3s l)) (hn : n ≤ maxLen) :
    Calls Try.prog 25 #[.int .i64 v, .slice A n c] w (Done w) := by
  have hlen : l.length = n := by have := h.1; rw [z3s_len] at this; omega
  have hm := maxLen_int hn
  have H := Lib.hid (And.intro h hlen)
  clear h hlen hn
  by_cases hbig : 2147483647 < n
  · have hb : decide ((2147483647 : Int) < (n : Int)) = true := by rw [decide_eq_true_eq]; omega
    go_enter Try.func25, Try.ntmps25
    go_wp2
    go_ret
    exact ⟨rfl, Fr.refl _ _⟩
  · have hb : decide ((2147483647 : Int) < (n : Int)) = false := by rw [decide_eq_false_iff_not]; omega
    have HB := Lib.hid (show n < 2147483648 by omega)
    clear hbig
    go_enter Try.func25, Try.ntmps25
    go_wp2_with fail
    refine (conv_c H.out.1 HB.out).mono ?_
    rintro e w1 ⟨v1, rfl, hF⟩
    obtain ⟨A1, c1, rfl⟩ := hF.shp
    have HF := Lib.hid hF
    clear hF
    go_wp2_with fail
    refine (good_c v (n := n) (c := c1) HF.out.rd (by have := HB.out; omega)).mono ?_
    rintro e w2 ⟨rfl, hF2⟩
    have HF2 := Lib.hid (HF.out.nix hF2)
    clear hF2
    obtain ⟨g, hg⟩ : ∃ g, goodB v l = g := ⟨_, rfl⟩
    rw [hg]
    have HG := Lib.hid hg
    clear hg
    cases g
    · go_wp2
      go_ret
      exact ⟨rfl, HF2.out.fr⟩
    · have HGZ := Lib.hid (goodB_z HG.out)
      have hn64 : (n : Int) ≤ 64 := by have := HGZ.out.len; have := H.out.2; omega
      obtain ⟨V, hV⟩ : ∃ V : Nat, v = V := ⟨v.toNat, by have := HGZ.out.v0; omega⟩
      subst hV
      go_wp2_with fail
      refine (iRun_c (V : Int) (H.out.1.nix HF2.out.fr) HGZ.out.run).mono ?_
      rintro e w4 ⟨u, rfl, hF4, _, hown⟩
      obtain ⟨A4, c4, rfl, _, _, hR4, hA4⟩ := rd_own hown
      have HR4 := Lib.hid hR4
      have HA4 := Lib.hid hA4
      have HF4 := Lib.hid (HF2.out.nix hF4)
      clear hF4 hown hR4 hA4
      have HS := Lib.hid (snd_outs HGZ.out.good)
      have heq : ((n : Int) == (n : Int)) = true := beq_self_eq_true _
      go_wp2_with fail
      refine (snd_c HF4.out.rd HGZ.out HR4.out HA4.out HS.out).mono ?_
      rintro e w5 ⟨rfl, hF5⟩
      have HF5 := Lib.hid (HF4.out.fr.t hF5)
      clear hF5
      go_wp2
      go_ret
      exact ⟨rfl, HF5.out⟩
end Go.Proofs.Ytapnmgkpljlgmaa

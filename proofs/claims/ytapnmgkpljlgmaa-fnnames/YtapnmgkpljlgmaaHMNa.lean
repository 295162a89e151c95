/- The walk of FnNames. -/
import Derived.Test.YtapnmgkpljlgmaaG26
set_option linter.unusedVariables false
set_option linter.unusedSimpArgs false
namespace Go.Proofs.Ytapnmgkpljlgmaa
open Go.RowKit
set_option maxRecDepth 10000 in
set_option maxHeartbeats 16000000 in
theorem FnNames_c {v t : Int} {A : Option Addr} {n c : Nat} {l : List Z3} {w : World} (h : Rd w 3 A n (z3s l)) (hn : n ≤ maxLen) :
    Calls Try.prog 18 #[.int .i64 v, .slice A n c, .int .i64 t] w (Done w) := by
  have hlen : l.length = n := by have := h.1; rw [z3s_len] at this; omega
  have hm := maxLen_int hn
  have H := Lib.hid (And.intro h hlen)
  clear h hlen hn
  by_cases hbig : 2147483647 < n
  · have hb : decide ((2147483647 : Int) < (n : Int)) = true := by rw [decide_eq_true_eq]; omega
    go_enter Try.func18, Try.ntmps18
    go_wp2
    go_ret
    exact ⟨rfl, Fr.refl _ _⟩
  · have hb : decide ((2147483647 : Int) < (n : Int)) = false := by rw [decide_eq_false_iff_not]; omega
    have HB := Lib.hid (show n < 2147483648 by omega)
    clear hbig
    go_enter Try.func18, Try.ntmps18
    go_wp2_with fail
    refine (conv_c H.out.1 HB.out).mono ?_
    rintro e w1 ⟨v1, rfl, hF⟩
    obtain ⟨A1, c1, rfl⟩ := hF.shp
    have HF := Lib.hid hF
    clear hF
    go_wp2_with fail
    refine (good_c v (n := n) (c := c1) HF.out.rd (by have := HB.out; omega)).mono ?_
    rintro e w2 ⟨rfl, hF2⟩
    have HF2 := Lib.hid (HF.out.nix hF2)
    clear hF2
    obtain ⟨g, hg⟩ : ∃ g, goodB v l = g := ⟨_, rfl⟩
    rw [hg]
    have HG := Lib.hid hg
    clear hg
    cases g
    · go_wp2
      go_ret
      exact ⟨rfl, HF2.out.fr⟩
    · have HGZ := Lib.hid (goodB_z HG.out)
      have hn64 : (n : Int) ≤ 64 := by have := HGZ.out.len; have := H.out.2; omega
      by_cases hc : v < 1 ∨ t < 0 ∨ v ≤ t
      · by_cases h1 : v < 1
        · go_wp2
          go_ret
          exact ⟨rfl, HF2.out.fr⟩
        · have h1' : decide (v < 1) = false := decide_eq_false h1
          by_cases h2 : t < 0
          · go_wp2
            go_ret
            exact ⟨rfl, HF2.out.fr⟩
          · have h2' : decide (t < 0) = false := decide_eq_false h2
            have h3 : v ≤ t := by omega
            go_wp2
            go_ret
            exact ⟨rfl, HF2.out.fr⟩
      · have h1 : ¬ v < 1 := by omega
        have h2 : ¬ t < 0 := by omega
        have h3 : ¬ v ≤ t := by omega
        have h1' : decide (v < 1) = false := decide_eq_false h1
        have h2' : decide (t < 0) = false := decide_eq_false h2
        have h3' : decide (v ≤ t) = false := decide_eq_false h3
        have HT := Lib.hid (show 0 ≤ t ∧ t < v by omega)
        clear hc h1 h2 h3
        have HP4 := Lib.hid (parts_lit (w := w2) (T := 24) rfl _ _ (.cons (prt_of (c := c1) HF2.out.rd) .nil) 1 rfl)
        have HOK4 := Lib.hid (show RunOK [l].flatten by rw [one_flat]; exact HGZ.out.run)
        go_wp2_with fail
        refine (run_c v HP4.out (by omega) HOK4.out).mono ?_
        rintro e w4 ⟨A4, c4, rfl, hR, hF, hc, hmx, hg⟩
        rw [one_flat] at hR hc hg ⊢
        have eN : (l).length = n := H.out.2
        rw [eN] at hR hc hg ⊢
        have HR4 := Lib.hid (And.intro hR (And.intro hc (And.intro hmx hg)))
        have HFr4 := Lib.hid ((HF2.out.fr.a _).t hF)
        have HFk4 := Lib.hid ((Fr.al _ _).t hF)
        clear hR hF hc hmx hg eN
        clear h1' h2' h3'
        have HF4 := Lib.hid (HF2.out.nix HFk4.out)
        go_wp2_with fail
        refine (turned_c HF4.out.rd HB.out HGZ.out.wf HGZ.out.v12 HT.out.1 HT.out.2).mono ?_
        rintro e w5 ⟨v5, rfl, hQ⟩
        obtain ⟨g5, cq, rfl⟩ := hQ.shp
        obtain ⟨q, hq⟩ : ∃ q, l.map (rotZ v t) = q := ⟨_, rfl⟩
        rw [hq] at hQ
        have HQ := Lib.hid hQ
        have HQE := Lib.hid hq
        clear hQ hq
        have HP6 := Lib.hid (parts_lit (w := w5) (T := 24) rfl _ _ (.cons (prt_of (c := cq) HQ.out.rd) .nil) 1 rfl)
        have HOK6 := Lib.hid (show RunOK [q].flatten by rw [one_flat]; exact (by rw [← HQE.out]; exact (RunOK.map_wf HGZ.out.run HGZ.out HT.out.1 HT.out.2)))
        go_wp2_with fail
        refine (run_c v HP6.out (by omega) HOK6.out).mono ?_
        rintro e w6 ⟨A6, c6, rfl, hR, hF, hc, hmx, hg⟩
        rw [one_flat] at hR hc hg ⊢
        have eN : (q).length = n := by rw [← HQE.out, List.length_map]; exact H.out.2
        rw [eN] at hR hc hg ⊢
        have HR6 := Lib.hid (And.intro hR (And.intro hc (And.intro hmx hg)))
        have HFr6 := Lib.hid (((HFr4.out.t HQ.out.fr).a _).t hF)
        have HFk6 := Lib.hid ((Fr.al _ _).t hF)
        clear hR hF hc hmx hg eN
        have HE := Lib.hid (show outz q = outz l by rw [← HQE.out]; exact rot_z HGZ.out HT.out.1 HT.out.2)
        go_wp2_with fail
        refine (same_c (HR4.out.1.nix (HQ.out.fr.t HFk6.out)) HR6.out.1 (by omega) (by omega)).mono ?_
        rintro e w7 ⟨rfl, hF7⟩
        have HF7 := Lib.hid (HFr6.out.t hF7)
        clear hF7
        rw [HE.out, decide_eq_true rfl]
        go_wp2
        go_ret
        exact ⟨rfl, HF7.out⟩
end Go.Proofs.Ytapnmgkpljlgmaa

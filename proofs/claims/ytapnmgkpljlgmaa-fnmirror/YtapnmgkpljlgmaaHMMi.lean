/- The walk of FnMirror. -/
import Derived.Test.YtapnmgkpljlgmaaG26
set_option linter.unusedVariables false
set_option linter.unusedSimpArgs false
namespace Go.Proofs.Ytapnmgkpljlgmaa
open Go.RowKit
set_option maxRecDepth 10000 in
set_option maxHeartbeats 16000000 in
theorem FnMirror_c {v : Int} {A : Option Addr} {n c : Nat} {l : List Z3} {w : World} (h : Rd w 3 A n (z3s l)) (hn : n ≤ maxLen) :
    Calls Try.prog 17 #[.int .i64 v, .slice A n c] w (Done w) := by
  have hlen : l.length = n := by have := h.1; rw [z3s_len] at this; omega
  have hm := maxLen_int hn
  have H := Lib.hid (And.intro h hlen)
  clear h hlen hn
  by_cases hbig : 2147483647 < n
  · have hb : decide ((2147483647 : Int) < (n : Int)) = true := by rw [decide_eq_true_eq]; omega
    go_enter Try.func17, Try.ntmps17
    go_wp2
    go_ret
    exact ⟨rfl, Fr.refl _ _⟩
  · have hb : decide ((2147483647 : Int) < (n : Int)) = false := by rw [decide_eq_false_iff_not]; omega
    have HB := Lib.hid (show n < 2147483648 by omega)
    clear hbig
    go_enter Try.func17, Try.ntmps17
    go_wp2_with fail
    refine (conv_c H.out.1 HB.out).mono ?_
    rintro e w1 ⟨v1, rfl, hF⟩
    obtain ⟨A1, c1, rfl⟩ := hF.shp
    have HF := Lib.hid hF
    clear hF
    go_wp2_with fail
    refine (good_c v (n := n) (c := c1) HF.out.rd (by have := HB.out; omega)).mono ?_
    rintro e w2 ⟨rfl, hF2⟩
    have HF2 := Lib.hid (HF.out.nix hF2)
    clear hF2
    obtain ⟨g, hg⟩ : ∃ g, goodB v l = g := ⟨_, rfl⟩
    rw [hg]
    have HG := Lib.hid hg
    clear hg
    cases g
    · go_wp2
      go_ret
      exact ⟨rfl, HF2.out.fr⟩
    · have HGZ := Lib.hid (goodB_z HG.out)
      have hn64 : (n : Int) ≤ 64 := by have := HGZ.out.len; have := H.out.2; omega
      go_wp2_with fail
      refine (plainS_c HF2.out.rd HB.out).mono ?_
      rintro e w3 ⟨rfl, hF3⟩
      have HF3 := Lib.hid (HF2.out.nix hF3)
      clear hF3
      obtain ⟨p, hp⟩ : ∃ p, l.all noN = p := ⟨_, rfl⟩
      rw [hp]
      have HPL := Lib.hid hp
      clear hp
      cases p
      · go_wp2
        go_ret
        exact ⟨rfl, HF3.out.fr⟩
      · have HP4 := Lib.hid (parts_lit (w := w3) (T := 24) rfl _ _ (.cons (prt_of (c := c1) HF3.out.rd) .nil) 1 rfl)
        have HOK4 := Lib.hid (show RunOK [l].flatten by rw [one_flat]; exact HGZ.out.run)
        go_wp2_with fail
        refine (run_c v HP4.out (by omega) HOK4.out).mono ?_
        rintro e w4 ⟨A4, c4, rfl, hR, hF, hc, hmx, hg⟩
        rw [one_flat] at hR hc hg ⊢
        have eN : (l).length = n := H.out.2
        rw [eN] at hR hc hg ⊢
        have HR4 := Lib.hid (And.intro hR (And.intro hc (And.intro hmx hg)))
        have HFr4 := Lib.hid ((HF3.out.fr.a _).t hF)
        have HFk4 := Lib.hid ((Fr.al _ _).t hF)
        clear hR hF hc hmx hg eN
        have HF4 := Lib.hid (HF3.out.nix HFk4.out)
        go_wp2_with fail
        refine (mirrored_c HF4.out.rd HB.out).mono ?_
        rintro e w5 ⟨v5, rfl, hQ⟩
        obtain ⟨g5, cq, rfl⟩ := hQ.shp
        obtain ⟨q, hq⟩ : ∃ q, l.map mirZ = q := ⟨_, rfl⟩
        rw [hq] at hQ
        have HQ := Lib.hid hQ
        have HQE := Lib.hid hq
        clear hQ hq
        have HP6 := Lib.hid (parts_lit (w := w5) (T := 24) rfl _ _ (.cons (prt_of (c := cq) HQ.out.rd) .nil) 1 rfl)
        have HOK6 := Lib.hid (show RunOK [q].flatten by rw [one_flat]; exact (by rw [← HQE.out]; exact HGZ.out.run.map fun z _ => ⟨rfl, mir_wf⟩))
        go_wp2_with fail
        refine (run_c v HP6.out (by omega) HOK6.out).mono ?_
        rintro e w6 ⟨A6, c6, rfl, hR, hF, hc, hmx, hg⟩
        rw [one_flat] at hR hc hg ⊢
        have eN : (q).length = n := by rw [← HQE.out, List.length_map]; exact H.out.2
        rw [eN] at hR hc hg ⊢
        have HR6 := Lib.hid (And.intro hR (And.intro hc (And.intro hmx hg)))
        have HFr6 := Lib.hid (((HFr4.out.t HQ.out.fr).a _).t hF)
        have HFk6 := Lib.hid ((Fr.al _ _).t hF)
        clear hR hF hc hmx hg eN
        have HE := Lib.hid (show outz q = outz l by
          rw [← HQE.out]
          refine mir_z (fun z hz => ?_) (fun z hz => (HGZ.out.wf z hz).lo)
          have := List.all_eq_true.1 HPL.out z hz
          simpa [noN] using this)
        go_wp2_with fail
        refine (same_c (HR4.out.1.nix (HQ.out.fr.t HFk6.out)) HR6.out.1 (by omega) (by omega)).mono ?_
        rintro e w7 ⟨rfl, hF7⟩
        have HF7 := Lib.hid (HFr6.out.t hF7)
        clear hF7
        rw [HE.out, decide_eq_true rfl]
        go_wp2
        go_ret
        exact ⟨rfl, HF7.out⟩
end Go.Proofs.Ytapnmgkpljlgmaa

/- The walk of FnMerged. -/
import Derived.Test.YtapnmgkpljlgmaaG24
import Derived.IntWalk
set_option linter.unusedVariables false
set_option linter.unusedSimpArgs false
namespace Go.Proofs.Ytapnmgkpljlgmaa
open Go.RowKit
set_option maxRecDepth 10000 in
set_option maxHeartbeats 8000000 in
theorem FnMerged_c {v x y z : Int} {A : Option Addr} {n c : Nat} {l : List Z3} {w : World} (h : Rd w 3 A n (z3s l)) (hn : n ≤ maxLen) :
    Calls Try.prog 16 #[.int .i64 v, .slice A n c, .int .i64 x, .int .i64 y, .int .i64 z] w (Done w) := by
  have hlen : l.length = n := by have := h.1; rw [z3s_len] at this; omega
  have hm := maxLen_int hn
  have H := Lib.hid (And.intro h hlen)
  clear h hlen hn
  by_cases hbig : 2147483647 < n
  · have hb : decide ((2147483647 : Int) < (n : Int)) = true := by rw [decide_eq_true_eq]; omega
    go_enter Try.func16, Try.ntmps16
    go_wp2
    go_ret
    exact ⟨rfl, Fr.refl _ _⟩
  · have hb : decide ((2147483647 : Int) < (n : Int)) = false := by rw [decide_eq_false_iff_not]; omega
    have HB := Lib.hid (show n < 2147483648 by omega)
    clear hbig
    go_enter Try.func16, Try.ntmps16
    go_wp2_with fail
    refine (conv_c H.out.1 HB.out).mono ?_
    rintro e w1 ⟨v1, rfl, hF⟩
    obtain ⟨A1, c1, rfl⟩ := hF.shp
    have HF := Lib.hid hF
    clear hF
    obtain ⟨q, hq⟩ : ∃ q : List Z3, [(6, x, y), (4, x, z), (4, y, z), (4, z, x), (4, z, y), (5, x, z), (5, y, z), (6, x, z), (6, y, z), (7, x, z), (7, y, z)] = q := ⟨_, rfl⟩
    have HQ := Lib.hid hq
    have HQR := Lib.hid (rd_lit (w := w1) (T := 40) rfl q _ (show [.int .i64 6, .int .i64 x, .int .i64 y, .int .i64 4, .int .i64 x, .int .i64 z, .int .i64 4, .int .i64 y, .int .i64 z, .int .i64 4, .int .i64 z, .int .i64 x, .int .i64 4, .int .i64 z, .int .i64 y, .int .i64 5, .int .i64 x, .int .i64 z, .int .i64 5, .int .i64 y, .int .i64 z, .int .i64 6, .int .i64 x, .int .i64 z, .int .i64 6, .int .i64 y, .int .i64 z, .int .i64 7, .int .i64 x, .int .i64 z, .int .i64 7, .int .i64 y, .int .i64 z] = z3s q by rw [← hq]; rfl) 11 (by rw [← hq]; rfl))
    clear hq
    go_wp2_with fail
    refine (good_c v (n := n) (c := c1) (HF.out.rd.nix (Fr.al _ _)) (by have := HB.out; omega)).mono ?_
    rintro e w2 ⟨rfl, hF2⟩
    have HF2 := Lib.hid hF2
    clear hF2
    obtain ⟨g, hg⟩ : ∃ g, goodB v l = g := ⟨_, rfl⟩
    rw [hg]
    have HG := Lib.hid hg
    clear hg
    cases g
    · go_wp2
      go_ret
      exact ⟨rfl, (HF.out.fr.a _).t HF2.out⟩
    · go_wp2_with fail
      refine (good_c v (n := 11) (c := 11) (HQR.out.nix HF2.out) (by omega)).mono ?_
      rintro e w3 ⟨rfl, hF3⟩
      have HF3 := Lib.hid hF3
      clear hF3
      obtain ⟨g, hg⟩ : ∃ g, goodB v q = g := ⟨_, rfl⟩
      rw [hg]
      have HG2 := Lib.hid hg
      clear hg
      cases g
      · go_wp2
        go_ret
        exact ⟨rfl, ((HF.out.fr.a _).t HF2.out).t HF3.out⟩
      · have G := goodB_z HG.out
        have aq := goodB_ask HG2.out (by rw [← HQ.out]; intro z hz; simp only [List.mem_cons, List.not_mem_nil, or_false] at hz; rcases hz with rfl | rfl | rfl | rfl | rfl | rfl | rfl | rfl | rfl | rfl | rfl <;> simp)
        have HRUN := Lib.hid (show RunOK [l, q].flatten by
          have := G.run.ask G.v12 aq (by have := G.len; have e : q.length = 11 := (by rw [← HQ.out]; rfl); omega)
          simpa using this)
        have HFR := Lib.hid (((HF.out.fr.a _).t HF2.out).t HF3.out)
        have hP := fun c => parts_lit (w := w3) (T := 24) rfl _ _ (.cons (prt_of (c := c1) (HF.out.rd.nix (((Fr.al _ _).t HF2.out).t HF3.out))) (.cons (prt_of (c := c) (HQR.out.nix (HF2.out.t HF3.out))) .nil)) 2 rfl
        have HP := Lib.hid hP
        clear hP
        go_wp2_with fail
        refine (run_c v (HP.out _) (by omega) HRUN.out).mono ?_
        rintro e w5 ⟨A5, c5, rfl, hR5, hF5, hc5, hm5, hg5⟩
        have eN : [l, q].flatten.length = n + 11 := by rw [← HQ.out]; simp [H.out.2]
        obtain ⟨N, hN⟩ : ∃ N, [l, q].flatten.length = N := ⟨_, rfl⟩
        rw [hN] at eN hR5 hc5 hg5 ⊢
        obtain ⟨g5, rfl⟩ := hg5 (by omega)
        obtain ⟨q0, q1, q2, q3, q4, q5, q6, q7, q8, q9, q10, hO, h0⟩ := merged_z (l := l) (x := x) (y := y) (z := z) (by rw [HQ.out]; exact aq)
        have eL : outz [l, q].flatten = outz l ++ [q0, q1, q2, q3, q4, q5, q6, q7, q8, q9, q10] := by rw [← hO, HQ.out]; simp
        have lo : (outz l).length = n := by rw [outz_len]; exact H.out.2
        have k0 := ans_at (k := 0) hR5 eL lo rfl
        have k1 := ans_at (k := 1) hR5 eL lo rfl
        have k2 := ans_at (k := 2) hR5 eL lo rfl
        have k3 := ans_at (k := 3) hR5 eL lo rfl
        have k4 := ans_at (k := 4) hR5 eL lo rfl
        have k5 := ans_at (k := 5) hR5 eL lo rfl
        have k6 := ans_at (k := 6) hR5 eL lo rfl
        have k7 := ans_at (k := 7) hR5 eL lo rfl
        have k8 := ans_at (k := 8) hR5 eL lo rfl
        have k9 := ans_at (k := 9) hR5 eL lo rfl
        have k10 := ans_at (k := 10) hR5 eL lo rfl
        have HFR5 := Lib.hid ((HFR.out.a _).t hF5)
        rw [Nat.add_zero] at k0
        have HC := Lib.hid (h0)
        have HT := Lib.hid (tail_c (m := 11) hR5 (by omega) hc5 hm5)
        have HNE := Lib.hid (show N - 11 = n by omega)
        have K0 := Lib.hid k0
        have K1 := Lib.hid k1
        have K2 := Lib.hid k2
        have K3 := Lib.hid k3
        have K4 := Lib.hid k4
        have K5 := Lib.hid k5
        have K6 := Lib.hid k6
        have K7 := Lib.hid k7
        have K8 := Lib.hid k8
        have K9 := Lib.hid k9
        have K10 := Lib.hid k10
        clear hR5 hF5 hc5 hm5 hg5 eN hN hO eL lo G aq h0 k0 k1 k2 k3 k4 k5 k6 k7 k8 k9 k10
        go_wp2_with fail
        refine HT.out.mono ?_
        rintro e w6 ⟨A6, c6, rfl, _, hF6, hg6⟩
        obtain rfl := hg6 (by omega)
        rw [HNE.out]
        have HF6 := Lib.hid (HFR5.out.t hF6)
        have k0 := cell_nix hF6 K0.out
        have k1 := cell_nix hF6 K1.out
        have k2 := cell_nix hF6 K2.out
        have k3 := cell_nix hF6 K3.out
        have k4 := cell_nix hF6 K4.out
        have k5 := cell_nix hF6 K5.out
        have k6 := cell_nix hF6 K6.out
        have k7 := cell_nix hF6 K7.out
        have k8 := cell_nix hF6 K8.out
        have k9 := cell_nix hF6 K9.out
        have k10 := cell_nix hF6 K10.out
        clear hF6 hg6
        cases q0
        · go_upto_region 11 with fail
          go_quiet (fail)
          go_wp2
          go_ret
          exact ⟨rfl, HF6.out.t (Fr.drewN _ _ _)⟩
        · obtain ⟨rfl, rfl, rfl, rfl, rfl⟩ := HC.out rfl
          have r1 : (q1 == q1) = true := beq_self_eq_true _
          have r3 : (q3 == q3) = true := beq_self_eq_true _
          have r5 : (q5 == q5) = true := beq_self_eq_true _
          have r7 : (q7 == q7) = true := beq_self_eq_true _
          have r9 : (q9 == q9) = true := beq_self_eq_true _
          go_upto_region 11 with fail
          go_quiet (fail)
          go_wp2
          go_ret
          exact ⟨rfl, HF6.out.t (Fr.drewN _ _ _)⟩
end Go.Proofs.Ytapnmgkpljlgmaa

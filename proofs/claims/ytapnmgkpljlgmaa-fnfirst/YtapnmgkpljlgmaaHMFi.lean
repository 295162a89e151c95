/- The walk of FnFirst. -/
import Derived.Test.YtapnmgkpljlgmaaG26
set_option linter.unusedVariables false
set_option linter.unusedSimpArgs false
namespace Go.Proofs.Ytapnmgkpljlgmaa
open Go.RowKit
set_option maxRecDepth 10000 in
set_option maxHeartbeats 16000000 in
theorem FnFirst_c {v t : Int} {A : Option Addr} {n c : Nat} {l : List Z3} {w : World} (h : Rd w 3 A n (z3s l)) (hn : n ≤ maxLen) :
    Calls Try.prog 14 #[.int .i64 v, .slice A n c, .int .i64 t] w (Done w) := by
  have hlen : l.length = n := by have := h.1; rw [z3s_len] at this; omega
  have hm := maxLen_int hn
  have H := Lib.hid (And.intro h hlen)
  clear h hlen hn
  by_cases hbig : 2147483647 < n
  · have hb : decide ((2147483647 : Int) < (n : Int)) = true := by rw [decide_eq_true_eq]; omega
    go_enter Try.func14, Try.ntmps14
    go_wp2
    go_ret
    exact ⟨rfl, Fr.refl _ _⟩
  · have hb : decide ((2147483647 : Int) < (n : Int)) = false := by rw [decide_eq_false_iff_not]; omega
    have HB := Lib.hid (show n < 2147483648 by omega)
    clear hbig
    go_enter Try.func14, Try.ntmps14
    go_wp2_with fail
    refine (conv_c H.out.1 HB.out).mono ?_
    rintro e w1 ⟨v1, rfl, hF⟩
    obtain ⟨A1, c1, rfl⟩ := hF.shp
    have HF := Lib.hid hF
    clear hF
    go_wp2_with fail
    refine (good_c v (n := n) (c := c1) HF.out.rd (by have := HB.out; omega)).mono ?_
    rintro e w2 ⟨rfl, hF2⟩
    have HF2 := Lib.hid (HF.out.nix hF2)
    clear hF2
    obtain ⟨g, hg⟩ : ∃ g, goodB v l = g := ⟨_, rfl⟩
    rw [hg]
    have HG := Lib.hid hg
    clear hg
    cases g
    · go_wp2
      go_ret
      exact ⟨rfl, HF2.out.fr⟩
    · have HGZ := Lib.hid (goodB_z HG.out)
      have hn64 : (n : Int) ≤ 64 := by have := HGZ.out.len; have := H.out.2; omega
      by_cases hc : t < 0 ∨ (n : Int) < t
      · by_cases h2 : t < 0
        · go_wp2
          go_ret
          exact ⟨rfl, HF2.out.fr⟩
        · have h2' : decide (t < 0) = false := decide_eq_false h2
          have h3 : (n : Int) < t := by omega
          go_wp2
          go_ret
          exact ⟨rfl, HF2.out.fr⟩
      · obtain ⟨T, hT⟩ : ∃ T : Nat, t = T := ⟨t.toNat, by omega⟩
        subst hT
        have h2 : ¬ (T : Int) < 0 := by omega
        have h2' : decide ((T : Int) < 0) = false := decide_eq_false h2
        have h3' : decide (n < T) = false := decide_eq_false (by omega)
        have HT := Lib.hid (show T ≤ n by omega)
        have hTn : (T : Int) ≤ (n : Int) := by omega
        have hT0 : (0 : Int) ≤ (T : Int) := by omega
        have HC1 := Lib.hid HF2.out.cap
        have hc1 : (T : Int) ≤ (c1 : Int) := by have := HC1.out; omega
        have hc2 : (c1 : Int) ≤ 9223372036854775807 := by have := HC1.out; unfold maxLen at this; omega
        clear hc h2
        have HP4 := Lib.hid (parts_lit (w := w2) (T := 24) rfl _ _ (.cons (prt_of (c := c1) HF2.out.rd) .nil) 1 rfl)
        have HOK4 := Lib.hid (show RunOK [l].flatten by rw [one_flat]; exact HGZ.out.run)
        go_wp2_with fail
        refine (run_c v HP4.out (by omega) HOK4.out).mono ?_
        rintro e w4 ⟨A4, c4, rfl, hR, hF, hc, hmx, hg⟩
        rw [one_flat] at hR hc hg ⊢
        have eN : (l).length = n := H.out.2
        rw [eN] at hR hc hg ⊢
        have HR4 := Lib.hid (And.intro hR (And.intro hc (And.intro hmx hg)))
        have HFr4 := Lib.hid ((HF2.out.fr.a _).t hF)
        have HFk4 := Lib.hid ((Fr.al _ _).t hF)
        clear hR hF hc hmx hg eN
        clear h2' h3'
        have HF4 := Lib.hid (HF2.out.nix HFk4.out)
        have HQ := Lib.hid (show Rd w4 3 (some ⟨A1, 0, none⟩) T (z3s (l.take T)) by
          have := HF4.out.rd.sub (l := 0) (m := T) (by have := HT.out; omega)
          rw [Nat.zero_mul, List.drop_zero, z3s_sub, add0] at this
          exact this)
        obtain ⟨q, hq⟩ : ∃ q, l.take T = q := ⟨_, rfl⟩
        rw [hq] at HQ
        have HQE := Lib.hid hq
        clear hq
        have HP6 := Lib.hid (parts_lit (w := w4) (T := 24) rfl _ _ (.cons (prt_of (c := c1) HQ.out) .nil) 1 rfl)
        have HOK6 := Lib.hid (show RunOK [q].flatten by rw [one_flat]; exact (by rw [← HQE.out]; exact HGZ.out.run.take T))
        go_wp2_with fail
        refine (run_c v HP6.out (by omega) HOK6.out).mono ?_
        rintro e w6 ⟨A6, c6, rfl, hR, hF, hc, hmx, hg⟩
        rw [one_flat] at hR hc hg ⊢
        have eN : (q).length = T := by rw [← HQE.out, List.length_take]; have := H.out.2; have := HT.out; omega
        rw [eN] at hR hc hg ⊢
        have HR6 := Lib.hid (And.intro hR (And.intro hc (And.intro hmx hg)))
        have HFr6 := Lib.hid ((HFr4.out.a _).t hF)
        have HFk6 := Lib.hid ((Fr.al _ _).t hF)
        clear hR hF hc hmx hg eN
        have HE := Lib.hid (show outz q = (outz l).take T by rw [← HQE.out]; exact outz_take l T)
        have hc4 : (T : Int) ≤ (c4 : Int) := by have := HR4.out.2.1; omega
        have hc5 : (c4 : Int) ≤ 9223372036854775807 := by have := HR4.out.2.2.1; unfold maxLen at this; omega
        have HRT := Lib.hid (show ∀ (A : Option Addr), (0 < T → A = A4) → Rd w6 1 A T (bls ((outz l).take T)) by
          intro A hA
          by_cases h0 : T = 0
          · subst h0; rw [List.take_zero]; exact Rd.zero
          · rw [hA (by omega)]
            obtain ⟨g, e⟩ := HR4.out.2.2.2 (by have := HT.out; omega)
            have hr := HR4.out.1.nix HFk6.out
            rw [e] at hr ⊢
            have := hr.sub (l := 0) (m := T) (by have := HT.out; omega)
            rw [bls_sub, List.drop_zero, Nat.zero_mul, add0] at this
            exact this)
        rcases Nat.eq_zero_or_pos n with h0 | h0
        · obtain rfl : T = 0 := by have := HT.out; omega
          cases A4
          all_goals
            go_wp2_with fail
            all_goals
              refine (same_c (HRT.out _ fun q => absurd q (by omega)) HR6.out.1 (by omega) (by omega)).mono ?_
              rintro e w7 ⟨rfl, hF7⟩
              have HF7 := Lib.hid (HFr6.out.t hF7)
              clear hF7
              rw [HE.out, decide_eq_true rfl]
              go_wp2
              go_ret
              exact ⟨rfl, HF7.out⟩
        · obtain ⟨g4, rfl⟩ := HR4.out.2.2.2 h0
          go_wp2_with fail
          refine (same_c (HRT.out _ fun _ => rfl) HR6.out.1 (by omega) (by omega)).mono ?_
          rintro e w7 ⟨rfl, hF7⟩
          have HF7 := Lib.hid (HFr6.out.t hF7)
          clear hF7
          rw [HE.out, decide_eq_true rfl]
          go_wp2
          go_ret
          exact ⟨rfl, HF7.out⟩
end Go.Proofs.Ytapnmgkpljlgmaa

/- The walk of FnAsking. -/
import Derived.Test.YtapnmgkpljlgmaaG26
set_option linter.unusedVariables false
set_option linter.unusedSimpArgs false
namespace Go.Proofs.Ytapnmgkpljlgmaa
open Go.RowKit
set_option maxRecDepth 10000 in
set_option maxHeartbeats 16000000 in
theorem FnAsking_c {v : Int} {A : Option Addr} {n c : Nat} {l : List Z3} {w : World} (h : Rd w 3 A n (z3s l)) (hn : n ≤ maxLen) :
    Calls Try.prog 11 #[.int .i64 v, .slice A n c] w (Done w) := by
  have hlen : l.length = n := by have := h.1; rw [z3s_len] at this; omega
  have hm := maxLen_int hn
  have H := Lib.hid (And.intro h hlen)
  clear h hlen hn
  by_cases hbig : 2147483647 < n
  · have hb : decide ((2147483647 : Int) < (n : Int)) = true := by rw [decide_eq_true_eq]; omega
    go_enter Try.func11, Try.ntmps11
    go_wp2
    go_ret
    exact ⟨rfl, Fr.refl _ _⟩
  · have hb : decide ((2147483647 : Int) < (n : Int)) = false := by rw [decide_eq_false_iff_not]; omega
    have HB := Lib.hid (show n < 2147483648 by omega)
    clear hbig
    go_enter Try.func11, Try.ntmps11
    go_wp2_with fail
    refine (conv_c H.out.1 HB.out).mono ?_
    rintro e w1 ⟨v1, rfl, hF⟩
    obtain ⟨A1, c1, rfl⟩ := hF.shp
    have HF := Lib.hid hF
    clear hF
    go_wp2_with fail
    refine (good_c v (n := n) (c := c1) HF.out.rd (by have := HB.out; omega)).mono ?_
    rintro e w2 ⟨rfl, hF2⟩
    have HF2 := Lib.hid (HF.out.nix hF2)
    clear hF2
    obtain ⟨g, hg⟩ : ∃ g, goodB v l = g := ⟨_, rfl⟩
    rw [hg]
    have HG := Lib.hid hg
    clear hg
    cases g
    · go_wp2
      go_ret
      exact ⟨rfl, HF2.out.fr⟩
    · have HGZ := Lib.hid (goodB_z HG.out)
      have hn64 : (n : Int) ≤ 64 := by have := HGZ.out.len; have := H.out.2; omega
      go_wp2_with fail
      refine (without_c HF2.out.rd HB.out).mono ?_
      rintro e w3 ⟨va, vb, rfl, hT⟩
      obtain ⟨ga, ca, rfl⟩ := hT.fa.shp
      obtain ⟨gb, cb, rfl⟩ := hT.fb.shp
      obtain ⟨i1, i2, i3⟩ := wat_get (l := l) _ rfl
      obtain ⟨q, hq⟩ : ∃ q, wout l = q := ⟨_, rfl⟩
      obtain ⟨p, hp⟩ : ∃ p, wat l 0 = p := ⟨_, rfl⟩
      rw [hq, hp] at hT i2
      rw [hq, hp] at i3
      rw [hq, hp]
      obtain ⟨P, hP⟩ : ∃ P, q.length = P := ⟨_, rfl⟩
      have e2 : p.length = P := i2.trans hP
      have ha := hT.fa
      have hb := hT.fb
      rw [hP] at ha ⊢
      rw [e2] at hb ⊢
      have HA := Lib.hid ha
      have HBB := Lib.hid hb
      have HW := Lib.hid i3
      have HQE := Lib.hid (And.intro hq (And.intro hP (And.intro e2 H.out.2)))
      have HF3 := Lib.hid (HF2.out.nix ha.fr)
      have hPi : (P : Int) ≤ 64 := by
        have h1 : (wout l).length ≤ l.length := List.length_filter_le _ _
        rw [hq, hP] at h1
        have := H.out.2
        omega
      clear i1 i2 i3 hq hp hT ha hb hP e2
      have HP4 := Lib.hid (parts_lit (w := w3) (T := 24) rfl _ _ (.cons (prt_of (c := c1) HF3.out.rd) .nil) 1 rfl)
      have HOK4 := Lib.hid (show RunOK [l].flatten by rw [one_flat]; exact HGZ.out.run)
      go_wp2_with fail
      refine (run_c v HP4.out (by omega) HOK4.out).mono ?_
      rintro e w4 ⟨A4, c4, rfl, hR, hF, hc, hmx, hg⟩
      rw [one_flat] at hR hc hg ⊢
      have eN : (l).length = n := H.out.2
      rw [eN] at hR hc hg ⊢
      have HR4 := Lib.hid (And.intro hR (And.intro hc (And.intro hmx hg)))
      have HFr4 := Lib.hid ((HF3.out.fr.a _).t hF)
      have HFk4 := Lib.hid ((Fr.al _ _).t hF)
      clear hR hF hc hmx hg eN
      have HP6 := Lib.hid (parts_lit (w := w4) (T := 24) rfl _ _ (.cons (prt_of (c := ca) (HA.out.rd.nix HFk4.out)) .nil) 1 rfl)
      have HOK6 := Lib.hid (show RunOK [q].flatten by rw [one_flat]; exact (by rw [← HQE.out.1]; exact HGZ.out.run.wout))
      go_wp2_with fail
      refine (run_c v HP6.out (by omega) HOK6.out).mono ?_
      rintro e w6 ⟨A6, c6, rfl, hR, hF, hc, hmx, hg⟩
      rw [one_flat] at hR hc hg ⊢
      have eN : (q).length = P := HQE.out.2.1
      rw [eN] at hR hc hg ⊢
      have HR6 := Lib.hid (And.intro hR (And.intro hc (And.intro hmx hg)))
      have HFr6 := Lib.hid ((HFr4.out.a _).t hF)
      have HFk6 := Lib.hid ((Fr.al _ _).t hF)
      clear hR hF hc hmx hg eN
      have HB6 := Lib.hid (HBB.out.rd.nix (HFk4.out.t HFk6.out))
      have HR46 := Lib.hid (HR4.out.1.nix HFk6.out)
      go_wp2_with fail
      go_loopg [50] P (fun m u wr => ∃ j : Nat, m + j = P ∧ u = .int .i64 (j : Nat) ∧ Fr w6 wr Nix)
      case atStart => exact ⟨0, rfl, rfl, Fr.refl _ _⟩
      case round =>
        obtain ⟨j, hmj, rfl, hF⟩ := hrel
        have HMJ := Lib.hid hmj
        have HFJ := Lib.hid hF
        clear hmj hF
        by_cases hlt : j < P
        · have hpl : p.length = P := HQE.out.2.2.1
          obtain ⟨k, hk⟩ : ∃ k, p[j]? = some k := ⟨_, List.getElem?_eq_getElem (by omega)⟩
          obtain ⟨hkl, hkk⟩ := HW.out j k hk
          have hkn : k < n := by have := HQE.out.2.2.2; omega
          obtain ⟨g4, rfl⟩ := HR4.out.2.2.2 (by omega)
          obtain ⟨g6, rfl⟩ := HR6.out.2.2.2 (by omega)
          obtain ⟨_, b, hA, hb, hcb⟩ := rdat (HR6.out.1.nix HFJ.out) hlt
          cases hA
          rw [hb] at hkk
          have hcg := rdbool (HR46.out.nix HFJ.out) hkk.symm
          have hca := (HB6.out.nix HFJ.out).cells (by omega) (i := j) (u := .int .i64 (k : Nat)) (by unfold ints; rw [List.getElem?_map, hk]; rfl)
          rw [add0] at hcb hcg hca
          have hji : (j : Int) < (P : Int) := by omega
          have hki : (k : Int) < (n : Int) := by omega
          clear hk hkk hb hkl hpl
          cases b
          all_goals
            go_upto_region 14 with fail
            go_quiet (fail)
            go_wp2
            go_roundg (P - (j + 1))
            case measure => have := HMJ.out; omega
            case rel => exact ⟨j + 1, by have := HMJ.out; omega, by rw [Int.natCast_add]; rfl, HFJ.out.t (Fr.drewN _ _ _)⟩
        · have hj : j = P := by have := HMJ.out; omega
          subst hj
          go_wp2
          go_ret
          exact ⟨rfl, HFr6.out.t HFJ.out⟩
end Go.Proofs.Ytapnmgkpljlgmaa

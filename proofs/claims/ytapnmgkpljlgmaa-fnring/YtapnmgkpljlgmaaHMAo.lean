/- The walk of FnAnyOrder. -/
import Derived.Test.YtapnmgkpljlgmaaG26
import Derived.Test.YtapnmgkpljlgmaaG28
import Derived.Test.YtapnmgkpljlgmaaG27
import Derived.Test.YtapnmgkpljlgmaaG21
set_option linter.unusedVariables false
set_option linter.unusedSimpArgs false
namespace Go.Proofs.Ytapnmgkpljlgmaa
open Go.RowKit
theorem mem_sts {a b : List Z3} (h : ∀ z, z ∈ a ↔ z ∈ b) (f : Stp) : f ∈ sts a ↔ f ∈ sts b := by
  unfold sts
  constructor
  · intro k; obtain ⟨z, hz, rfl⟩ := List.mem_map.1 k; exact List.mem_map.2 ⟨z, (h z).1 hz, rfl⟩
  · intro k; obtain ⟨z, hz, rfl⟩ := List.mem_map.1 k; exact List.mem_map.2 ⟨z, (h z).2 hz, rfl⟩
theorem shufZ_len (l : List Z3) (t : Nat) (b : Bool) : (shufZ l t b).length = l.length := shuf_len _ _ _ _
theorem GoodZ.shuf {v : Int} {l : List Z3} (h : GoodZ v l) (hf : l.all factB = true) {t : Nat} (ht : t ≤ l.length) (b : Bool) : GoodZ v (shufZ l t b) := by
  have hm := fun z => shuf_mem (z := ((0, 0, 0) : Z3)) (b := b) ht z
  refine ⟨h.v0, h.v12, by rw [shufZ_len]; exact h.len, fun z hz => h.wf z ((hm z).2 hz), Deep_flat _ _ fun s hs => ?_⟩
  obtain ⟨z, hz, rfl⟩ := List.mem_map.1 hs
  have := List.all_eq_true.1 hf z ((hm z).2 hz)
  have : 0 ≤ z.1 ∧ z.1 ≤ 3 := by simpa [factB] using this
  unfold stz; simp only; omega
theorem order_z {V : Nat} {l q : List Z3} {t : Nat} {b : Bool} (h : GoodZ (V : Int) l) (hf : l.all factB = true) (hn : l.all noN = true) (hfit : fitB V (sts l) = true) (ht : t ≤ l.length) (hq : AskZ (V : Int) q) :
    outz (shufZ l t b ++ q) = outz (l ++ q) := by
  unfold outz
  rw [sts_app, sts_app]
  refine outs_order (v := V) (fun f hf2 h2 => ?_) (fun f hf2 => ?_) hfit ?_ (fun f => mem_sts (fun z => shuf_mem (z := ((0, 0, 0) : Z3)) (b := b) ht z) f) hq.sts
  · obtain ⟨z, hz, rfl⟩ := List.mem_map.1 hf2
    have := ((h.wf z hz).wf.2 (by omega))
    exact ⟨this.1, this.2.1⟩
  · obtain ⟨z, hz, rfl⟩ := List.mem_map.1 hf2
    have h1 := List.all_eq_true.1 hf z hz
    have h1 : 0 ≤ z.1 ∧ z.1 ≤ 3 := by simpa [factB] using h1
    have h2 := List.all_eq_true.1 hn z hz
    have h2 : ¬ z.1 = 3 := by simpa [noN] using h2
    unfold stz; simp only; omega
  · rw [sts_len, sts_len, shufZ_len]
set_option maxRecDepth 10000 in
set_option maxHeartbeats 16000000 in
theorem FnAnyOrder_c {v t : Int} {b : Bool} {A : Option Addr} {n c : Nat} {l : List Z3} {w : World} (h : Rd w 3 A n (z3s l)) (hn : n ≤ maxLen) :
    Calls Try.prog 8 #[.int .i64 v, .slice A n c, .int .i64 t, .bool b] w (Done w) := by
  have hlen : l.length = n := by have := h.1; rw [z3s_len] at this; omega
  have hm := maxLen_int hn
  have H := Lib.hid (And.intro h hlen)
  clear h hlen hn
  by_cases hbig : 2147483647 < n
  · have hb : decide ((2147483647 : Int) < (n : Int)) = true := by rw [decide_eq_true_eq]; omega
    go_enter Try.func8, Try.ntmps8
    go_wp2
    go_ret
    exact ⟨rfl, Fr.refl _ _⟩
  · have hb : decide ((2147483647 : Int) < (n : Int)) = false := by rw [decide_eq_false_iff_not]; omega
    have HB := Lib.hid (show n < 2147483648 by omega)
    clear hbig
    go_enter Try.func8, Try.ntmps8
    go_wp2_with fail
    refine (conv_c H.out.1 HB.out).mono ?_
    rintro e w1 ⟨v1, rfl, hF⟩
    obtain ⟨A1, c1, rfl⟩ := hF.shp
    have HF := Lib.hid hF
    clear hF
    go_wp2_with fail
    refine (good_c v (n := n) (c := c1) HF.out.rd (by have := HB.out; omega)).mono ?_
    rintro e w2 ⟨rfl, hF2⟩
    have HF2 := Lib.hid (HF.out.nix hF2)
    clear hF2
    obtain ⟨g, hg⟩ : ∃ g, goodB v l = g := ⟨_, rfl⟩
    rw [hg]
    have HG := Lib.hid hg
    clear hg
    cases g
    · go_wp2
      go_ret
      exact ⟨rfl, HF2.out.fr⟩
    · have HGZ := Lib.hid (goodB_z HG.out)
      have hn64 : (n : Int) ≤ 64 := by have := HGZ.out.len; have := H.out.2; omega
      obtain ⟨V, hV⟩ : ∃ V : Nat, v = V := ⟨v.toNat, by have := HGZ.out.v0; omega⟩
      subst hV
      have HV12 := Lib.hid (show V ≤ 12 by have := HGZ.out.v12; omega)
      go_wp2_with fail
      refine (plainS_c HF2.out.rd HB.out).mono ?_
      rintro e w3 ⟨rfl, hF3⟩
      have HF3 := Lib.hid (HF2.out.nix hF3)
      clear hF3
      obtain ⟨p, hp⟩ : ∃ p, l.all noN = p := ⟨_, rfl⟩
      rw [hp]
      have HPL := Lib.hid hp
      clear hp
      cases p
      · go_wp2
        go_ret
        exact ⟨rfl, HF3.out.fr⟩
      · go_wp2_with fail
        refine (only_c HF3.out.rd HB.out).mono ?_
        rintro e w4 ⟨rfl, hF4⟩
        have HF4 := Lib.hid (HF3.out.nix hF4)
        clear hF4
        obtain ⟨p, hp⟩ : ∃ p, l.all factB = p := ⟨_, rfl⟩
        rw [hp]
        have HFA := Lib.hid hp
        clear hp
        cases p
        · go_wp2
          go_ret
          exact ⟨rfl, HF4.out.fr⟩
        · by_cases t0 : t < 0
          · have d0 : decide (t < 0) = true := decide_eq_true t0
            go_wp2
            go_ret
            exact ⟨rfl, HF4.out.fr⟩
          · obtain ⟨T, hT⟩ : ∃ T : Nat, t = T := ⟨t.toNat, by omega⟩
            subst hT
            clear t0
            have d0 : decide ((T : Int) < 0) = false := by rw [decide_eq_false_iff_not]; omega
            by_cases t1 : n ≤ T
            · have d1 : decide (n ≤ T) = true := decide_eq_true t1
              have d2 : decide ((n : Int) ≤ (T : Int)) = true := by rw [decide_eq_true_eq]; omega
              go_wp2
              go_ret
              exact ⟨rfl, HF4.out.fr⟩
            · have d1 : decide (n ≤ T) = false := decide_eq_false t1
              have d2 : decide ((n : Int) ≤ (T : Int)) = false := by rw [decide_eq_false_iff_not]; omega
              have HT := Lib.hid (show T ≤ n by omega)
              clear t1
              go_wp2_with fail
              refine (fits_c HF4.out.rd (by omega) HV12.out HGZ.out.wf).mono ?_
              rintro e w5 ⟨rfl, hF5⟩
              have HF5 := Lib.hid (HF4.out.nix hF5)
              clear hF5 d0 d1 d2
              obtain ⟨p, hp⟩ : ∃ p, fitB V (sts l) = p := ⟨_, rfl⟩
              rw [hp]
              have HFI := Lib.hid hp
              clear hp
              cases p
              · go_wp2
                go_ret
                exact ⟨rfl, HF5.out.fr⟩
              · go_wp2_with fail
                refine (all_c (V := V) HV12.out).mono ?_
                rintro e w6 ⟨vq, rfl, hQ⟩
                obtain ⟨q, hq⟩ : ∃ q, quests V 4 7 = q := ⟨_, rfl⟩
                have hAQ := quests_ask (v := V) (f := 4) (t := 7) (by omega) (by omega)
                have hLQ := quests_len (v := V) (f := 4) (t := 7) HV12.out (by omega) (by omega)
                rw [hq] at hQ hAQ hLQ
                clear hq
                obtain ⟨Q, hQl⟩ : ∃ Q, q.length = Q := ⟨_, rfl⟩
                have hQ : Fsh w5 w6 40 3 vq q.length (z3s q) := hQ
                rw [hQl] at hQ hLQ
                obtain ⟨gq, cq, rfl⟩ := hQ.shp
                have HQ := Lib.hid (And.intro hQ (And.intro hAQ hQl))
                have hqi : (Q : Int) ≤ 576 := by omega
                have HL6 := Lib.hid (HF5.out.nix hQ.fr)
                clear hQ hAQ hQl hLQ
                have HP7 := Lib.hid (parts_lit (w := w6) (T := 24) rfl _ _ (.cons (prt_of (c := c1) HL6.out.rd) (.cons (prt_of (c := cq) HQ.out.1.rd) .nil)) 2 rfl)
                have HRUN := Lib.hid (show RunOK [l, q].flatten by
                  have l0 := HGZ.out.len
                  have l2 := HQ.out.2.2
                  have r1 := HGZ.out.run.ask HGZ.out.v12 HQ.out.2.1 (by omega)
                  simpa using r1)
                go_wp2_with fail
                refine (run_c (V : Int) HP7.out (by omega) HRUN.out).mono ?_
                rintro e w7 ⟨A7, c7, rfl, hR7, hF7, hc7, hm7, hg7⟩
                have eN : [l, q].flatten.length = n + Q := by
                  have e1 := H.out.2; have e2 := HQ.out.2.2
                  simp only [List.flatten_cons, List.flatten_nil, List.length_append, List.length_nil, e1, e2]; omega
                rw [eN] at hR7 hc7 hg7 ⊢
                have HR7 := Lib.hid hR7
                have HK7 := Lib.hid ((Fr.al _ _).t hF7)
                have HL7 := Lib.hid (HL6.out.nix HK7.out)
                clear hR7 hF7 hc7 hm7 hg7 eN
                go_wp2_with fail
                refine (shuffled_c (b := b) HL7.out.rd HB.out HT.out).mono ?_
                rintro e w8 ⟨v8, rfl, hS⟩
                obtain ⟨g8, c8, rfl⟩ := hS.shp
                obtain ⟨s, hs⟩ : ∃ s, shufZ l T b = s := ⟨_, rfl⟩
                rw [hs] at hS
                have HS := Lib.hid hS
                have HSE := Lib.hid hs
                clear hS hs
                have HP9 := Lib.hid (parts_lit (w := w8) (T := 24) rfl _ _ (.cons (prt_of (c := c8) HS.out.rd) (.cons (prt_of (c := cq) (HQ.out.1.rd.nix (HK7.out.t HS.out.fr))) .nil)) 2 rfl)
                have HRUN2 := Lib.hid (show RunOK [s, q].flatten by
                  have l0 := HGZ.out.len
                  have l2 := HQ.out.2.2
                  have l3 := shufZ_len l T b
                  have r1 := (HGZ.out.shuf HFA.out (by rw [H.out.2]; exact HT.out) b).run.ask HGZ.out.v12 HQ.out.2.1 (by omega)
                  rw [HSE.out] at r1
                  simpa using r1)
                go_wp2_with fail
                refine (run_c (V : Int) HP9.out (by omega) HRUN2.out).mono ?_
                rintro e w9 ⟨A9, c9, rfl, hR9, hF9, hc9, hm9, hg9⟩
                have eN : [s, q].flatten.length = n + Q := by
                  have e1 := H.out.2; have e2 := HQ.out.2.2
                  have e3 : s.length = l.length := by rw [← HSE.out]; exact shufZ_len _ _ _
                  simp only [List.flatten_cons, List.flatten_nil, List.length_append, List.length_nil, e1, e2, e3]; omega
                rw [eN] at hR9 hc9 hg9 ⊢
                have HR9 := Lib.hid hR9
                have HK9 := Lib.hid ((Fr.al _ _).t hF9)
                clear hR9 hF9 hc9 hm9 hg9 eN
                have HE := Lib.hid (show outz [s, q].flatten = outz [l, q].flatten by
                  have := order_z (b := b) HGZ.out HFA.out HPL.out HFI.out (by rw [H.out.2]; exact HT.out) HQ.out.2.1
                  rw [HSE.out] at this
                  simpa using this)
                have HFR := Lib.hid ((((HL6.out.fr).t HK7.out).t HS.out.fr).t HK9.out)
                go_wp2_with fail
                refine (same_c (HR7.out.nix (HS.out.fr.t HK9.out)) HR9.out (by omega) (by omega)).mono ?_
                rintro e w10 ⟨rfl, hF10⟩
                have HF10 := Lib.hid (HFR.out.t hF10)
                clear hF10
                rw [HE.out, decide_eq_true rfl]
                go_wp2
                go_ret
                exact ⟨rfl, HF10.out⟩
end Go.Proofs.Ytapnmgkpljlgmaa

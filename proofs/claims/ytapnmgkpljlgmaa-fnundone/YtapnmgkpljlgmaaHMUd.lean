/- The walk of FnUndone. -/
import Derived.Test.YtapnmgkpljlgmaaG26
set_option linter.unusedVariables false
set_option linter.unusedSimpArgs false
namespace Go.Proofs.Ytapnmgkpljlgmaa
open Go.RowKit
theorem deep_between : ∀ (k : List Z3) (d : Nat) (x y a b : Int), (∀ z ∈ k, (stz z).op ≤ 3) → Deep d (sts ([(8, x, y)] ++ (k ++ [(9, a, b)]))) := by
  intro k d x y a b hk
  have hf : ∀ s ∈ sts k, s.op ≤ 7 := fun s hs => by
    obtain ⟨z, hz, rfl⟩ := List.mem_map.1 hs
    have := hk z hz; omega
  have e : sts ([(8, x, y)] ++ (k ++ [(9, a, b)])) = stz (8, x, y) :: (sts k ++ [stz (9, a, b)]) := by rw [sts_app, sts_app]; rfl
  rw [e]
  unfold Deep
  rw [if_pos (show (stz (8, x, y)).op = 8 from rfl)]
  refine Deep_app _ _ _ (Deep_flat _ _ hf) ?_
  rw [dpt_flat _ _ hf]
  unfold Deep
  rw [if_neg (show ¬ (stz (9, a, b)).op = 8 by show ¬ 9 = 8; omega), if_pos (show (stz (9, a, b)).op = 9 from rfl)]
  exact ⟨by omega, trivial⟩
theorem fact_op {k : List Z3} (h : k.all factB = true) : ∀ z ∈ k, (stz z).op ≤ 3 := fun z hz => by
  have := List.all_eq_true.1 h z hz
  have : 0 ≤ z.1 ∧ z.1 ≤ 3 := by simpa [factB] using this
  unfold stz; simp only; omega
set_option maxRecDepth 10000 in
set_option maxHeartbeats 16000000 in
theorem FnUndone_c {v : Int} {A B : Option Addr} {n c m d : Nat} {l k : List Z3} {w : World} (h : Rd w 3 A n (z3s l)) (hn : n ≤ maxLen) (h2 : Rd w 3 B m (z3s k)) (hm : m ≤ maxLen) :
    Calls Try.prog 6 #[.int .i64 v, .slice A n c, .slice B m d] w (Done w) := by
  have hlen : l.length = n := by have := h.1; rw [z3s_len] at this; omega
  have hlen2 : k.length = m := by have := h2.1; rw [z3s_len] at this; omega
  have hm1 := maxLen_int hn
  have hm2 := maxLen_int hm
  have H := Lib.hid (And.intro h hlen)
  have H2 := Lib.hid (And.intro h2 hlen2)
  clear h hlen hn h2 hlen2 hm
  by_cases hbig : 2147483647 < n
  · have hb : decide ((2147483647 : Int) < (n : Int)) = true := by rw [decide_eq_true_eq]; omega
    go_enter Try.func6, Try.ntmps6
    go_wp2
    go_ret
    exact ⟨rfl, Fr.refl _ _⟩
  · have hb : decide ((2147483647 : Int) < (n : Int)) = false := by rw [decide_eq_false_iff_not]; omega
    have HB := Lib.hid (show n < 2147483648 by omega)
    clear hbig
    by_cases hbig2 : 2147483647 < m
    · have hb2 : decide ((2147483647 : Int) < (m : Int)) = true := by rw [decide_eq_true_eq]; omega
      go_enter Try.func6, Try.ntmps6
      go_wp2
      go_ret
      exact ⟨rfl, Fr.refl _ _⟩
    · have hb2 : decide ((2147483647 : Int) < (m : Int)) = false := by rw [decide_eq_false_iff_not]; omega
      have HB2 := Lib.hid (show m < 2147483648 by omega)
      clear hbig2
      go_enter Try.func6, Try.ntmps6
      go_wp2_with fail
      refine (conv_c H.out.1 HB.out).mono ?_
      rintro e w1 ⟨v1, rfl, hF⟩
      obtain ⟨g1, c1, rfl⟩ := hF.shp
      have HF := Lib.hid hF
      clear hF
      go_wp2_with fail
      refine (conv_c (H2.out.1.nix HF.out.fr) HB2.out).mono ?_
      rintro e w2 ⟨v2, rfl, hF⟩
      obtain ⟨g2, c2, rfl⟩ := hF.shp
      have HF2 := Lib.hid hF
      have HL2 := Lib.hid (HF.out.rd.nix hF.fr)
      have HFR2 := Lib.hid (HF.out.fr.t hF.fr)
      clear hF
      go_wp2_with fail
      refine (good_c v (n := n) (c := c1) HL2.out (by have := HB.out; omega)).mono ?_
      rintro e w3 ⟨rfl, hF3⟩
      have HF3 := Lib.hid hF3
      clear hF3
      obtain ⟨g, hg⟩ : ∃ g, goodB v l = g := ⟨_, rfl⟩
      rw [hg]
      have HG := Lib.hid hg
      clear hg
      cases g
      · go_wp2
        go_ret
        exact ⟨rfl, HFR2.out.t HF3.out⟩
      · go_wp2_with fail
        refine (good_c v (n := m) (c := c2) (HF2.out.rd.nix HF3.out) (by have := HB2.out; omega)).mono ?_
        rintro e w4 ⟨rfl, hF4⟩
        have HF4 := Lib.hid (HF3.out.t hF4)
        clear hF4
        obtain ⟨g, hg⟩ : ∃ g, goodB v k = g := ⟨_, rfl⟩
        rw [hg]
        have HG2 := Lib.hid hg
        clear hg
        cases g
        · go_wp2
          go_ret
          exact ⟨rfl, HFR2.out.t HF4.out⟩
        · go_wp2_with fail
          refine (only_c (HF2.out.rd.nix HF4.out) HB2.out).mono ?_
          rintro e w5 ⟨rfl, hF5⟩
          have HF5 := Lib.hid (HF4.out.t hF5)
          clear hF5
          obtain ⟨s, hs⟩ : ∃ s, k.all factB = s := ⟨_, rfl⟩
          rw [hs]
          have HS := Lib.hid hs
          clear hs
          cases s
          · go_wp2
            go_ret
            exact ⟨rfl, HFR2.out.t HF5.out⟩
          · have G := Lib.hid (And.intro (goodB_z HG.out) (goodB_z HG2.out))
            obtain ⟨V, hV⟩ : ∃ V : Nat, v = V := ⟨v.toNat, by have := G.out.1.v0; omega⟩
            subst hV
            have HV12 := Lib.hid (show V ≤ 12 by have := G.out.1.v12; omega)
            have HFR5 := Lib.hid (HFR2.out.t HF5.out)
            have HL5 := Lib.hid (HL2.out.nix HF5.out)
            have HK5 := Lib.hid (HF2.out.rd.nix HF5.out)
            have hni : (n : Int) ≤ 64 := by have := G.out.1.len; have := H.out.2; omega
            have hmi : (m : Int) ≤ 64 := by have := G.out.2.len; have := H2.out.2; omega
            go_wp2_with fail
            refine (all_c (V := V) HV12.out).mono ?_
            rintro e w6 ⟨vq, rfl, hQ⟩
            obtain ⟨q, hq⟩ : ∃ q, quests V 4 7 = q := ⟨_, rfl⟩
            have hAQ := quests_ask (v := V) (f := 4) (t := 7) (by omega) (by omega)
            have hLQ := quests_len (v := V) (f := 4) (t := 7) HV12.out (by omega) (by omega)
            rw [hq] at hQ hAQ hLQ
            clear hq
            obtain ⟨Q, hQl⟩ : ∃ Q, q.length = Q := ⟨_, rfl⟩
            have hQ : Fsh w5 w6 40 3 vq q.length (z3s q) := hQ
            rw [hQl] at hQ hLQ
            obtain ⟨gq, cq, rfl⟩ := hQ.shp
            have HQ := Lib.hid (And.intro hQ (And.intro hAQ hQl))
            have HLQ := Lib.hid hLQ
            have hqi : (Q : Int) ≤ 576 := by omega
            clear hQ hAQ hQl hLQ
            have f6 := (Fr.al w6 (.cells #[.int .i64 8, .int .i64 0, .int .i64 0] 40)).a (.cells #[.int .i64 9, .int .i64 0, .int .i64 0] 40)
            have hz1 := rd_lit (w := w6) (T := 40) rfl [(8, 0, 0)] _ (show [.int .i64 8, .int .i64 0, .int .i64 0] = z3s [(8, 0, 0)] from rfl) 1 rfl
            have hz2 := rd_lit (w := w6.alloc (.cells #[.int .i64 8, .int .i64 0, .int .i64 0] 40)) (T := 40) (size_alloc _ _) [(9, 0, 0)] _ (show [.int .i64 9, .int .i64 0, .int .i64 0] = z3s [(9, 0, 0)] from rfl) 1 rfl
            have hP := parts_lit (w := (w6.alloc (.cells #[.int .i64 8, .int .i64 0, .int .i64 0] 40)).alloc (.cells #[.int .i64 9, .int .i64 0, .int .i64 0] 40)) (g := w6.heap.size + 1 + 1) (T := 24) (by rw [size_alloc, size_alloc]) _ _
              (.cons (prt_of (c := c1) (HL5.out.nix (HQ.out.1.fr.t f6))) (.cons (prt_of (c := cq) (HQ.out.1.rd.nix f6)) (.cons (prt_of (c := 1) (hz1.nix (Fr.al _ _))) (.cons (prt_of (c := c2) (HK5.out.nix (HQ.out.1.fr.t f6))) (.cons (prt_of (c := 1) hz2) (.cons (prt_of (c := cq) (HQ.out.1.rd.nix f6)) .nil)))))) 6 rfl
            have HP := Lib.hid hP
            have HRUN := Lib.hid (show RunOK [l, q, [(8, 0, 0)], k, [(9, 0, 0)], q].flatten by
              have l0 := G.out.1.len
              have l1 := sets_le l
              have l2 := HQ.out.2.2
              have l3 := HLQ.out
              have l4 := sets_ask HQ.out.2.1
              have l5 := G.out.2.len
              have l6 := sets_le ([(8, 0, 0)] ++ (k ++ [(9, 0, 0)]))
              simp only [List.length_append, List.length_cons, List.length_nil] at l6
              have r1 := G.out.1.run.ask G.out.1.v12 HQ.out.2.1 (by omega)
              have r2 := r1.app' (b := [(8, 0, 0)] ++ (k ++ [(9, 0, 0)])) (fun z hz => by
                simp only [List.mem_append, List.mem_singleton] at hz
                rcases hz with rfl | hz | rfl
                · exact ⟨by simp, by simp, fun a => absurd rfl a⟩
                · exact (G.out.2.wf z hz).mono G.out.2.v12
                · exact ⟨by simp, by simp, fun _ a => absurd rfl a⟩) (deep_between k _ 0 0 0 0 (fact_op HS.out)) (by simp only [sets_app] at *; omega) (by simp only [List.length_append, List.length_cons, List.length_nil]; omega)
              have r3 := r2.ask G.out.1.v12 HQ.out.2.1 (by simp only [List.length_append, List.length_cons, List.length_nil]; omega)
              simpa using r3)
            clear hP f6 hz1 hz2
            go_wp2_with fail
            refine (run_c (V : Int) HP.out (by omega) HRUN.out).mono ?_
            rintro e w7 ⟨A5, c5, rfl, hR5, hF6, hc5, hm5, hg5⟩
            have eN : [l, q, [(8, 0, 0)], k, [(9, 0, 0)], q].flatten.length = n + (Q + (1 + (m + (1 + Q)))) := by
              have e1 := H.out.2; have e2 := HQ.out.2.2; have e3 := H2.out.2
              simp only [List.flatten_cons, List.flatten_nil, List.length_append, List.length_cons, List.length_nil, e1, e2, e3]; omega
            obtain ⟨N, hN⟩ : ∃ N, [l, q, [(8, 0, 0)], k, [(9, 0, 0)], q].flatten.length = N := ⟨_, rfl⟩
            rw [hN] at eN hR5 hc5 hg5 ⊢
            obtain ⟨g5, rfl⟩ := hg5 (by omega)
            obtain ⟨p, r, hO, hp⟩ := undone_z (a := l) (b := k) (q := q) (m := (8, 0, 0)) (u := (9, 0, 0)) rfl rfl (fact_op HS.out) HQ.out.2.1
            have eL : outz [l, q, [(8, 0, 0)], k, [(9, 0, 0)], q].flatten = outz l ++ (p ++ (r ++ p)) := by rw [← hO]; simp
            have lo : (outz l).length = n := by rw [outz_len]; exact H.out.2
            rw [HQ.out.2.2] at hp
            have HFR7 := Lib.hid ((HFR5.out.t HQ.out.1.fr).t ((((Fr.al _ _).a _).a _).t hF6))
            have i1 : (n : Int) + (Q : Int) ≤ (c5 : Int) := by omega
            have hci : (c5 : Int) ≤ 9223372036854775807 := by unfold maxLen at hm5; omega
            have hcn : ¬ c5 = n := by omega
            have HA := Lib.hid (part_at (a := outz l) (p := p) (t := r ++ p) hR5 eL lo hp)
            have HR := Lib.hid hR5
            have HE := Lib.hid (drop_last (a := outz l ++ (p ++ r)) (by rw [eL]; simp) (rdlen hR5) hp).symm
            have HT := Lib.hid (show Q ≤ N ∧ N ≤ c5 ∧ c5 ≤ maxLen ∧ N ≤ 1000000 from ⟨by omega, hc5, hm5, by omega⟩)
            have s0 : IntKind.i64.wrap ((n : Int) + (Q : Int)) = (n : Int) + (Q : Int) := IntWalk.i64_in _ (by omega)
            have p0 : (0 : Int) ≤ (n : Int) + (Q : Int) := by omega
            have t0 : ((n : Int) + (Q : Int)).toNat = n + Q := by omega
            have p1 : (0 : Int) ≤ (n : Int) := by omega
            have p2 : (n : Int) ≤ (n : Int) + (Q : Int) := by omega
            clear hR5 hF6 hc5 hm5 hg5 eN hN hO eL lo hp
            go_upto_region 8 with fail
            go_quiet ((first | (go_at_call 44; exact Calls.quiet_of_same (tailq_c HT.out.1 HT.out.2.1 HT.out.2.2.1)) | (go_at_call 37; exact Calls.quiet_of (sameq_tail (HA.out.nix (Fr.drewN _ _ _)) (HR.out.nix (Fr.drewN _ _ _)) HT.out.1 HT.out.2.1 HT.out.2.2.2 HE.out))))
            go_wp2
            go_ret
            exact ⟨rfl, HFR7.out.t (Fr.drewN _ _ _)⟩
end Go.Proofs.Ytapnmgkpljlgmaa

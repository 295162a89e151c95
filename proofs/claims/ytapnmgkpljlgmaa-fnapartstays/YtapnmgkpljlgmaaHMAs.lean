/- The walk of FnApartStays. -/
import Derived.Test.YtapnmgkpljlgmaaG25
set_option linter.unusedVariables false
set_option linter.unusedSimpArgs false
namespace Go.Proofs.Ytapnmgkpljlgmaa
open Go.RowKit
attribute [local go_sem ↓] Go.wp_at_zero Go.wp_at_succ
set_option maxRecDepth 10000 in
set_option maxHeartbeats 16000000 in
theorem FnApartStays_c {v o x y : Int} {A : Option Addr} {n c : Nat} {l : List Z3} {w : World} (h : Rd w 3 A n (z3s l)) (hn : n ≤ maxLen) :
    Calls Try.prog 9 #[.int .i64 v, .slice A n c, .agg #[.int .i64 o, .int .i64 x, .int .i64 y]] w (Done w) := by
  have hlen : l.length = n := by have := h.1; rw [z3s_len] at this; omega
  have hm := maxLen_int hn
  have H := Lib.hid (And.intro h hlen)
  clear h hlen hn
  by_cases hbig : 2147483647 < n
  · have hb : decide ((2147483647 : Int) < (n : Int)) = true := by rw [decide_eq_true_eq]; omega
    go_enter Try.func9, Try.ntmps9
    go_wp2
    go_ret
    exact ⟨rfl, Fr.al _ _⟩
  · have hb : decide ((2147483647 : Int) < (n : Int)) = false := by rw [decide_eq_false_iff_not]; omega
    have HB := Lib.hid (show n < 2147483648 by omega)
    have HX := Lib.hid (box3_new w o x y 47)
    clear hbig
    go_enter Try.func9, Try.ntmps9
    go_upto_region 3 with fail
    have F0 := Lib.hid (Fr.al w (.cells #[.int .i64 o, .int .i64 x, .int .i64 y] 47))
    have HZ := Lib.hid (show w.heap.size < (w.alloc (.cells #[.int .i64 o, .int .i64 x, .int .i64 y] 47)).heap.size by simp)
    obtain ⟨w0, hw0⟩ : ∃ w0, w.alloc (.cells #[.int .i64 o, .int .i64 x, .int .i64 y] 47) = w0 := ⟨_, rfl⟩
    rw [hw0] at F0 HX HZ ⊢
    clear hw0
    go_cut [7, 8] from 17 to 25 (fun a b wx => HeadRel w n l o x y a b wx)
    case first =>
      have c0 := HX.out.1
      have c1 := HX.out.2.1
      have c2 := HX.out.2.2
      go_region_held3 (fun w' => w'.cell? ⟨w.heap.size, 0, none⟩ = some (.int .i64 o) ∧ w'.cell? ⟨w.heap.size, 1, none⟩ = some (.int .i64 x) ∧ w'.cell? ⟨w.heap.size, 2, none⟩ = some (.int .i64 y)) (first | exact HX.out | exact HX1.out | exact HX1.out.nix (Fr.al _ _) | exact HX.out.nix ((Fr.al _ _).t (Fr.drew _ _)) | exact HX1.out.nix ((Fr.drew _ _).t (Fr.al _ _)) | exact (hdB HF.out (F0.out.t ((Fr.al _ _).t (Fr.drew _ _))) HX1.out (by simp) HZ.out HHZ.out).choose_spec.choose_spec.choose_spec.2.2.2.2 | go_keep)
        (first
          | (go_at_call 40; (with_reducible refine (conv_c (H.out.1.nix (F0.out.t (by first | exact Fr.drew _ _ | exact (Fr.al _ _).t (Fr.drew _ _)))) HB.out).mono ?_); rintro e w1 ⟨v1, rfl, hF⟩; obtain ⟨A1, c1, rfl⟩ := hF.shp; have HF := Lib.hid hF; clear hF; have f1 : Fr w0 w1 Nix := (by first | exact (Fr.drew _ _).t HF.out.fr | exact ((Fr.al _ _).t (Fr.drew _ _)).t HF.out.fr); have HX1 := Lib.hid (HX.out.nix f1); clear f1; (try (have hz : w1.heap[w0.heap.size]? = some (.cells #[.int .i64 0, .int .i64 0, .int .i64 0] 40 (0, 0)) := (HF.out.fr.block _ (by simp) (fun e => e)).trans (heap_alloc_new w0 _); have HHZ := Lib.hid hz; have z0 := cell_block (j := 0) hz; have z1 := cell_block (j := 1) hz; have z2 := cell_block (j := 2) hz; have y0 := frozen_block (j := 0) hz; have y1 := frozen_block (j := 1) hz; have y2 := frozen_block (j := 2) hz; clear hz))))
      all_goals
        go_wp2_with fail
        go_meet
        first
          | exact hdA HF.out (F0.out.t (Fr.drew _ _)) HX1.out
          | exact hdB HF.out (F0.out.t ((Fr.al _ _).t (Fr.drew _ _))) HX1.out (by simp) HZ.out HHZ.out
    case rest =>
      obtain ⟨g1, c1, g2, rfl, rfl, hF, hB, hX⟩ := hcut
      have HF := Lib.hid hF
      have HBx := Lib.hid (show Box3 wc g2 o x y from hB)
      have HXx := Lib.hid (show Box3 wc w.heap.size o x y from hX)
      clear hF hB hX
      obtain ⟨b0, b1, b2⟩ := HBx.out
      go_wp2_with fail
      refine (with_c (o := o) (x := x) (y := y) HF.out.rd (by have := HB.out; omega)).mono ?_
      rintro e w2 ⟨v2, rfl, hW⟩
      obtain ⟨gw, cw, rfl⟩ := hW.shp
      have HW := Lib.hid hW
      clear hW b0 b1 b2
      go_wp2_with fail
      refine (good_c v (n := n + 1) (c := cw) HW.out.rd (by have := HB.out; omega)).mono ?_
      rintro e w3 ⟨rfl, hF3⟩
      have HF3 := Lib.hid hF3
      clear hF3
      obtain ⟨g, hg⟩ : ∃ g, goodB v (l ++ [(o, x, y)]) = g := ⟨_, rfl⟩
      rw [hg]
      have HG := Lib.hid hg
      clear hg
      cases g
      · go_wp2
        go_ret
        exact ⟨rfl, (HF.out.fr.t HW.out.fr).t HF3.out⟩
      · obtain ⟨b0, b1, b2⟩ := HBx.out.nix (HW.out.fr.t HF3.out)
        by_cases h03 : o = 0 ∨ o = 3
        · have ONE := Lib.hid (show One v o x y l from ⟨goodB_z HG.out, by omega, by omega⟩)
          have HOP := Lib.hid (show (stz (o, x, y)).op = 0 ∨ (stz (o, x, y)).op = 3 by unfold stz; simp only; omega)
          have HF4 := Lib.hid (HW.out.fr.t HF3.out)
          have HFR := Lib.hid (HF.out.fr.t HF4.out)
          have HL4 := Lib.hid (HF.out.rd.nix HF4.out)
          have HB4 := Lib.hid (HBx.out.nix HF4.out)
          have hni : (n : Int) ≤ 64 := by have := ONE.out.len; have := H.out.2; omega
          rcases h03 with rfl | rfl
          · obtain ⟨V, hV⟩ : ∃ V : Nat, v = V := ⟨v.toNat, by have := ONE.out.g.v0; omega⟩
            subst hV
            have HV12 := Lib.hid (show V ≤ 12 by have := ONE.out.g.v12; omega)
            go_wp2_with fail
            refine (quests_c (V := V) (f := 7) (t := 7) HV12.out (by omega) (by omega) (by omega)).mono ?_
            rintro e w5 ⟨vq, rfl, hQ⟩
            obtain ⟨q, hq⟩ : ∃ q, quests V 7 7 = q := ⟨_, rfl⟩
            have hAQ := quests_ask (v := V) (f := 7) (t := 7) (by omega) (by omega)
            have hLQ := quests_len (v := V) (f := 7) (t := 7) HV12.out (by omega) (by omega)
            have hKQ : ∀ z ∈ quests V 7 7, (7 : Int) ≤ z.1 ∧ z.1 ≤ 7 := fun z hz => by have := quests_all (f := 7) (t := 7) hz (by omega); omega
            rw [hq] at hQ hAQ hLQ hKQ
            clear hq
            obtain ⟨Q, hQl⟩ : ∃ Q, q.length = Q := ⟨_, rfl⟩
            have hQ : Fsh w3 w5 40 3 vq q.length (z3s q) := hQ
            rw [hQl] at hQ hLQ
            obtain ⟨gq, cq, rfl⟩ := hQ.shp
            have HQ := Lib.hid (And.intro hQ (And.intro hAQ (And.intro hQl hKQ)))
            have HLQ := Lib.hid hLQ
            have hqi : (Q : Int) ≤ 576 := by omega
            clear hQ hAQ hQl hLQ hKQ
            obtain ⟨b0, b1, b2⟩ := HB4.out.nix HQ.out.1.fr
            have f6 := Fr.al w5 (.cells #[.int .i64 0, .int .i64 x, .int .i64 y] 40)
            have hz1 := rd_lit (w := w5) (T := 40) rfl [(0, x, y)] _ (show [.int .i64 0, .int .i64 x, .int .i64 y] = z3s [(0, x, y)] from rfl) 1 rfl
            have hP := parts_lit (w := w5.alloc (.cells #[.int .i64 0, .int .i64 x, .int .i64 y] 40)) (g := w5.heap.size + 1) (T := 24) (size_alloc _ _) _ _ (.cons (prt_of (c := c1) (HL4.out.nix (HQ.out.1.fr.t f6))) (.cons (prt_of (c := cq) (HQ.out.1.rd.nix f6)) (.cons (prt_of (c := 1) hz1) (.cons (prt_of (c := cq) (HQ.out.1.rd.nix f6)) .nil)))) 4 rfl
            have HP := Lib.hid hP
            have HRUN := Lib.hid (show RunOK [l, q, [(0, x, y)], q].flatten by
              have l0 := ONE.out.len
              have l1 := sets_le l
              have l2 := HQ.out.2.2.1
              have l3 := HLQ.out
              have l4 := sets_ask HQ.out.2.1
              have r0 := ONE.out.g.left.run
              have r1 := r0.ask ONE.out.g.v12 HQ.out.2.1 (by first | omega | (simp only [List.length_append, List.length_cons, List.length_nil]; omega))
              have r2 := ONE.out.more r1 (by have l5 := sets_le [(0, x, y)]; simp only [List.length_cons, List.length_nil] at l5; first | omega | (simp only [sets_app]; omega)) (by first | omega | (simp only [List.length_append, List.length_cons, List.length_nil]; omega))
              have r3 := r2.ask ONE.out.g.v12 HQ.out.2.1 (by first | omega | (simp only [List.length_append, List.length_cons, List.length_nil]; omega))
              simpa using r3)
            clear hP f6 hz1
            go_wp2_with fail
            clear b0 b1 b2
            refine (run_c (V : Int) HP.out (by omega) HRUN.out).mono ?_
            rintro e w6 ⟨A5, c5, rfl, hR5, hF6, hc5, hm5, hg5⟩
            have eN : [l, q, [(0, x, y)], q].flatten.length = n + (Q + (1 + Q)) := by have e1 := H.out.2; have e2 := HQ.out.2.2.1; simp only [List.flatten_cons, List.flatten_nil, List.length_append, List.length_cons, List.length_nil, e1, e2]; omega
            obtain ⟨N, hN⟩ : ∃ N, [l, q, [(0, x, y)], q].flatten.length = N := ⟨_, rfl⟩
            rw [hN] at eN hR5 hc5 hg5 ⊢
            obtain ⟨g5, rfl⟩ := hg5 (by omega)
            obtain ⟨p, b, r, hO, hp, hr, himp⟩ := apart_z (l := l) (z := (0, x, y)) HOP.out HQ.out.2.1 (fun z hz => by have := HQ.out.2.2.2 z hz; omega)
            have eL : outz [l, q, [(0, x, y)], q].flatten = outz l ++ (p ++ ([b] ++ r)) := by rw [← hO]; simp
            have lo : (outz l).length = n := by rw [outz_len]; exact H.out.2
            have hNi : (N : Int) ≤ 4000 := by have := HLQ.out; have := ONE.out.len; have := H.out.2; omega
            have HFR5 := Lib.hid ((HFR.out.t HQ.out.1.fr).t (((Fr.al _ _).t (Fr.al _ _)).t hF6))
            rw [HQ.out.2.2.1] at hp hr
            have HT := Lib.hid (tail_c (m := Q) hR5 (by omega) hc5 hm5)
            have HP5 := Lib.hid (part_at hR5 eL lo hp)
            have HIM := Lib.hid (And.intro himp (drop_last (a := outz l ++ (p ++ [b])) (by rw [eL]; simp) (rdlen hR5) hr))
            have HN := Lib.hid (show n + Q < N by omega)
            have HPR := Lib.hid (And.intro hp hr)
            clear hR5 hF6 hc5 hm5 hg5 eN hN hO eL lo himp hp hr
            go_wp2_with fail
            refine HT.out.mono ?_
            rintro e w7 ⟨A6, c6, rfl, hR7, hF7, hg6⟩
            have HF7 := Lib.hid (HFR5.out.t hF7)
            have HP7 := Lib.hid (And.intro (HP5.out.nix hF7) hR7)
            obtain ⟨T, hT⟩ : ∃ T, N - Q = T := ⟨_, rfl⟩
            rw [hT] at hg6
            have HG6 := Lib.hid hg6
            clear hF7 hR7 hg6 hT
            go_wp2_with fail
            go_loopg [63] Q (fun m u wr => ∃ j : Nat, m + j = Q ∧ u = .int .i64 (j : Nat) ∧ wr = w7)
            case atStart => exact ⟨0, rfl, rfl, rfl⟩
            case round =>
              obtain ⟨j, hmj, rfl, rfl⟩ := hrel
              have HMJ := Lib.hid hmj
              clear hmj
              by_cases hlt : j < Q
              · obtain ⟨_, pb, hA, hpb, hcp⟩ := rdat HP7.out.1 hlt
                cases hA
                obtain ⟨_, rb, hA, hrb, hcr⟩ := rdat HP7.out.2 hlt
                rw [HG6.out (by omega)] at hA
                cases hA
                obtain rfl := HG6.out (by omega)
                rw [HIM.out.2] at hrb
                have HI := Lib.hid (show pb = true → rb = true from fun e => by
                  have := HIM.out.1 j (by rw [hpb, e])
                  rw [hrb] at this
                  exact Option.some.inj this)
                have e1 : ((⟨g5, n, none⟩ : Addr).add j) = ⟨g5, n + j, none⟩ := by rw [← add0, add_add, add0]
                have e2 : ((⟨g5, T, none⟩ : Addr).add j) = ⟨g5, T + j, none⟩ := by rw [← add0, add_add, add0]
                rw [e1] at hcp
                rw [e2] at hcr
                have hji : (j : Int) < (Q : Int) := by omega
                have hni2 : (n : Int) + (j : Int) < (N : Int) := by have := HN.out; omega
                clear hpb hrb e1 e2
                cases pb
                · go_wp2
                  go_roundg (Q - (j + 1))
                  case measure => have := HMJ.out; omega
                  case rel => exact ⟨j + 1, by have := HMJ.out; omega, by rw [Int.natCast_add]; rfl, rfl⟩
                · obtain rfl : rb = true := HI.out rfl
                  go_wp2
                  go_roundg (Q - (j + 1))
                  case measure => have := HMJ.out; omega
                  case rel => exact ⟨j + 1, by have := HMJ.out; omega, by rw [Int.natCast_add]; rfl, rfl⟩
              · have hj : j = Q := by have := HMJ.out; omega
                subst hj
                go_wp2
                go_ret
                exact ⟨rfl, HF7.out⟩
          · obtain ⟨V, hV⟩ : ∃ V : Nat, v = V := ⟨v.toNat, by have := ONE.out.g.v0; omega⟩
            subst hV
            have HV12 := Lib.hid (show V ≤ 12 by have := ONE.out.g.v12; omega)
            go_wp2_with fail
            refine (quests_c (V := V) (f := 7) (t := 7) HV12.out (by omega) (by omega) (by omega)).mono ?_
            rintro e w5 ⟨vq, rfl, hQ⟩
            obtain ⟨q, hq⟩ : ∃ q, quests V 7 7 = q := ⟨_, rfl⟩
            have hAQ := quests_ask (v := V) (f := 7) (t := 7) (by omega) (by omega)
            have hLQ := quests_len (v := V) (f := 7) (t := 7) HV12.out (by omega) (by omega)
            have hKQ : ∀ z ∈ quests V 7 7, (7 : Int) ≤ z.1 ∧ z.1 ≤ 7 := fun z hz => by have := quests_all (f := 7) (t := 7) hz (by omega); omega
            rw [hq] at hQ hAQ hLQ hKQ
            clear hq
            obtain ⟨Q, hQl⟩ : ∃ Q, q.length = Q := ⟨_, rfl⟩
            have hQ : Fsh w3 w5 40 3 vq q.length (z3s q) := hQ
            rw [hQl] at hQ hLQ
            obtain ⟨gq, cq, rfl⟩ := hQ.shp
            have HQ := Lib.hid (And.intro hQ (And.intro hAQ (And.intro hQl hKQ)))
            have HLQ := Lib.hid hLQ
            have hqi : (Q : Int) ≤ 576 := by omega
            clear hQ hAQ hQl hLQ hKQ
            obtain ⟨b0, b1, b2⟩ := HB4.out.nix HQ.out.1.fr
            have f6 := Fr.al w5 (.cells #[.int .i64 3, .int .i64 x, .int .i64 y] 40)
            have hz1 := rd_lit (w := w5) (T := 40) rfl [(3, x, y)] _ (show [.int .i64 3, .int .i64 x, .int .i64 y] = z3s [(3, x, y)] from rfl) 1 rfl
            have hP := parts_lit (w := w5.alloc (.cells #[.int .i64 3, .int .i64 x, .int .i64 y] 40)) (g := w5.heap.size + 1) (T := 24) (size_alloc _ _) _ _ (.cons (prt_of (c := c1) (HL4.out.nix (HQ.out.1.fr.t f6))) (.cons (prt_of (c := cq) (HQ.out.1.rd.nix f6)) (.cons (prt_of (c := 1) hz1) (.cons (prt_of (c := cq) (HQ.out.1.rd.nix f6)) .nil)))) 4 rfl
            have HP := Lib.hid hP
            have HRUN := Lib.hid (show RunOK [l, q, [(3, x, y)], q].flatten by
              have l0 := ONE.out.len
              have l1 := sets_le l
              have l2 := HQ.out.2.2.1
              have l3 := HLQ.out
              have l4 := sets_ask HQ.out.2.1
              have r0 := ONE.out.g.left.run
              have r1 := r0.ask ONE.out.g.v12 HQ.out.2.1 (by first | omega | (simp only [List.length_append, List.length_cons, List.length_nil]; omega))
              have r2 := ONE.out.more r1 (by have l5 := sets_le [(3, x, y)]; simp only [List.length_cons, List.length_nil] at l5; first | omega | (simp only [sets_app]; omega)) (by first | omega | (simp only [List.length_append, List.length_cons, List.length_nil]; omega))
              have r3 := r2.ask ONE.out.g.v12 HQ.out.2.1 (by first | omega | (simp only [List.length_append, List.length_cons, List.length_nil]; omega))
              simpa using r3)
            clear hP f6 hz1
            go_wp2_with fail
            clear b0 b1 b2
            refine (run_c (V : Int) HP.out (by omega) HRUN.out).mono ?_
            rintro e w6 ⟨A5, c5, rfl, hR5, hF6, hc5, hm5, hg5⟩
            have eN : [l, q, [(3, x, y)], q].flatten.length = n + (Q + (1 + Q)) := by have e1 := H.out.2; have e2 := HQ.out.2.2.1; simp only [List.flatten_cons, List.flatten_nil, List.length_append, List.length_cons, List.length_nil, e1, e2]; omega
            obtain ⟨N, hN⟩ : ∃ N, [l, q, [(3, x, y)], q].flatten.length = N := ⟨_, rfl⟩
            rw [hN] at eN hR5 hc5 hg5 ⊢
            obtain ⟨g5, rfl⟩ := hg5 (by omega)
            obtain ⟨p, b, r, hO, hp, hr, himp⟩ := apart_z (l := l) (z := (3, x, y)) HOP.out HQ.out.2.1 (fun z hz => by have := HQ.out.2.2.2 z hz; omega)
            have eL : outz [l, q, [(3, x, y)], q].flatten = outz l ++ (p ++ ([b] ++ r)) := by rw [← hO]; simp
            have lo : (outz l).length = n := by rw [outz_len]; exact H.out.2
            have hNi : (N : Int) ≤ 4000 := by have := HLQ.out; have := ONE.out.len; have := H.out.2; omega
            have HFR5 := Lib.hid ((HFR.out.t HQ.out.1.fr).t (((Fr.al _ _).t (Fr.al _ _)).t hF6))
            rw [HQ.out.2.2.1] at hp hr
            have HT := Lib.hid (tail_c (m := Q) hR5 (by omega) hc5 hm5)
            have HP5 := Lib.hid (part_at hR5 eL lo hp)
            have HIM := Lib.hid (And.intro himp (drop_last (a := outz l ++ (p ++ [b])) (by rw [eL]; simp) (rdlen hR5) hr))
            have HN := Lib.hid (show n + Q < N by omega)
            have HPR := Lib.hid (And.intro hp hr)
            clear hR5 hF6 hc5 hm5 hg5 eN hN hO eL lo himp hp hr
            go_wp2_with fail
            refine HT.out.mono ?_
            rintro e w7 ⟨A6, c6, rfl, hR7, hF7, hg6⟩
            have HF7 := Lib.hid (HFR5.out.t hF7)
            have HP7 := Lib.hid (And.intro (HP5.out.nix hF7) hR7)
            obtain ⟨T, hT⟩ : ∃ T, N - Q = T := ⟨_, rfl⟩
            rw [hT] at hg6
            have HG6 := Lib.hid hg6
            clear hF7 hR7 hg6 hT
            go_wp2_with fail
            go_loopg [63] Q (fun m u wr => ∃ j : Nat, m + j = Q ∧ u = .int .i64 (j : Nat) ∧ wr = w7)
            case atStart => exact ⟨0, rfl, rfl, rfl⟩
            case round =>
              obtain ⟨j, hmj, rfl, rfl⟩ := hrel
              have HMJ := Lib.hid hmj
              clear hmj
              by_cases hlt : j < Q
              · obtain ⟨_, pb, hA, hpb, hcp⟩ := rdat HP7.out.1 hlt
                cases hA
                obtain ⟨_, rb, hA, hrb, hcr⟩ := rdat HP7.out.2 hlt
                rw [HG6.out (by omega)] at hA
                cases hA
                obtain rfl := HG6.out (by omega)
                rw [HIM.out.2] at hrb
                have HI := Lib.hid (show pb = true → rb = true from fun e => by
                  have := HIM.out.1 j (by rw [hpb, e])
                  rw [hrb] at this
                  exact Option.some.inj this)
                have e1 : ((⟨g5, n, none⟩ : Addr).add j) = ⟨g5, n + j, none⟩ := by rw [← add0, add_add, add0]
                have e2 : ((⟨g5, T, none⟩ : Addr).add j) = ⟨g5, T + j, none⟩ := by rw [← add0, add_add, add0]
                rw [e1] at hcp
                rw [e2] at hcr
                have hji : (j : Int) < (Q : Int) := by omega
                have hni2 : (n : Int) + (j : Int) < (N : Int) := by have := HN.out; omega
                clear hpb hrb e1 e2
                cases pb
                · go_wp2
                  go_roundg (Q - (j + 1))
                  case measure => have := HMJ.out; omega
                  case rel => exact ⟨j + 1, by have := HMJ.out; omega, by rw [Int.natCast_add]; rfl, rfl⟩
                · obtain rfl : rb = true := HI.out rfl
                  go_wp2
                  go_roundg (Q - (j + 1))
                  case measure => have := HMJ.out; omega
                  case rel => exact ⟨j + 1, by have := HMJ.out; omega, by rw [Int.natCast_add]; rfl, rfl⟩
              · have hj : j = Q := by have := HMJ.out; omega
                subst hj
                go_wp2
                go_ret
                exact ⟨rfl, HF7.out⟩
        · have n0 : (o == 0) = false := by rw [beq_eq_false_iff_ne]; omega
          have n3 : (o == 3) = false := by rw [beq_eq_false_iff_ne]; omega
          have m0 : (o != 0) = true := by rw [bne, n0]; rfl
          have m3 : (o != 3) = true := by rw [bne, n3]; rfl
          have u0 : ¬ o = 0 := by omega
          have u3 : ¬ o = 3 := by omega
          clear h03
          go_wp2
          go_ret
          exact ⟨rfl, (HF.out.fr.t HW.out.fr).t HF3.out⟩
end Go.Proofs.Ytapnmgkpljlgmaa

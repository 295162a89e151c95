/- The walk of FnTwice. -/
import Derived.Test.YtapnmgkpljlgmaaG25
set_option linter.unusedVariables false
set_option linter.unusedSimpArgs false
namespace Go.Proofs.Ytapnmgkpljlgmaa
open Go.RowKit
attribute [local go_sem ↓] Go.wp_at_zero Go.wp_at_succ
set_option maxRecDepth 10000 in
set_option maxHeartbeats 16000000 in
theorem FnTwice_c {v o x y : Int} {A : Option Addr} {n c : Nat} {l : List Z3} {w : World} (h : Rd w 3 A n (z3s l)) (hn : n ≤ maxLen) :
    Calls Try.prog 31 #[.int .i64 v, .slice A n c, .agg #[.int .i64 o, .int .i64 x, .int .i64 y]] w (Done w) := by
  have hlen : l.length = n := by have := h.1; rw [z3s_len] at this; omega
  have hm := maxLen_int hn
  have H := Lib.hid (And.intro h hlen)
  clear h hlen hn
  by_cases hbig : 2147483647 < n
  · have hb : decide ((2147483647 : Int) < (n : Int)) = true := by rw [decide_eq_true_eq]; omega
    go_enter Try.func31, Try.ntmps31
    go_wp2
    go_ret
    exact ⟨rfl, Fr.al _ _⟩
  · have hb : decide ((2147483647 : Int) < (n : Int)) = false := by rw [decide_eq_false_iff_not]; omega
    have HB := Lib.hid (show n < 2147483648 by omega)
    have HX := Lib.hid (box3_new w o x y 47)
    clear hbig
    go_enter Try.func31, Try.ntmps31
    go_upto_region 3 with fail
    have F0 := Lib.hid (Fr.al w (.cells #[.int .i64 o, .int .i64 x, .int .i64 y] 47))
    have HZ := Lib.hid (show w.heap.size < (w.alloc (.cells #[.int .i64 o, .int .i64 x, .int .i64 y] 47)).heap.size by simp)
    obtain ⟨w0, hw0⟩ : ∃ w0, w.alloc (.cells #[.int .i64 o, .int .i64 x, .int .i64 y] 47) = w0 := ⟨_, rfl⟩
    rw [hw0] at F0 HX HZ ⊢
    clear hw0
    go_cut [7, 8] from 16 to 24 (fun a b wx => HeadRel w n l o x y a b wx)
    case first =>
      have c0 := HX.out.1
      have c1 := HX.out.2.1
      have c2 := HX.out.2.2
      go_region_held3 (fun w' => w'.cell? ⟨w.heap.size, 0, none⟩ = some (.int .i64 o) ∧ w'.cell? ⟨w.heap.size, 1, none⟩ = some (.int .i64 x) ∧ w'.cell? ⟨w.heap.size, 2, none⟩ = some (.int .i64 y)) (first | exact HX.out | exact HX1.out | exact HX1.out.nix (Fr.al _ _) | exact HX.out.nix ((Fr.al _ _).t (Fr.drew _ _)) | exact HX1.out.nix ((Fr.drew _ _).t (Fr.al _ _)) | exact (hdB HF.out (F0.out.t ((Fr.al _ _).t (Fr.drew _ _))) HX1.out (by simp) HZ.out HHZ.out).choose_spec.choose_spec.choose_spec.2.2.2.2 | go_keep)
        (first
          | (go_at_call 40; (with_reducible refine (conv_c (H.out.1.nix (F0.out.t (by first | exact Fr.drew _ _ | exact (Fr.al _ _).t (Fr.drew _ _)))) HB.out).mono ?_); rintro e w1 ⟨v1, rfl, hF⟩; obtain ⟨A1, c1, rfl⟩ := hF.shp; have HF := Lib.hid hF; clear hF; have f1 : Fr w0 w1 Nix := (by first | exact (Fr.drew _ _).t HF.out.fr | exact ((Fr.al _ _).t (Fr.drew _ _)).t HF.out.fr); have HX1 := Lib.hid (HX.out.nix f1); clear f1; (try (have hz : w1.heap[w0.heap.size]? = some (.cells #[.int .i64 0, .int .i64 0, .int .i64 0] 40 (0, 0)) := (HF.out.fr.block _ (by simp) (fun e => e)).trans (heap_alloc_new w0 _); have HHZ := Lib.hid hz; have z0 := cell_block (j := 0) hz; have z1 := cell_block (j := 1) hz; have z2 := cell_block (j := 2) hz; have y0 := frozen_block (j := 0) hz; have y1 := frozen_block (j := 1) hz; have y2 := frozen_block (j := 2) hz; clear hz))))
      all_goals
        go_wp2_with fail
        go_meet
        first
          | exact hdA HF.out (F0.out.t (Fr.drew _ _)) HX1.out
          | exact hdB HF.out (F0.out.t ((Fr.al _ _).t (Fr.drew _ _))) HX1.out (by simp) HZ.out HHZ.out
    case rest =>
      obtain ⟨g1, c1, g2, rfl, rfl, hF, hB, hX⟩ := hcut
      have HF := Lib.hid hF
      have HBx := Lib.hid (show Box3 wc g2 o x y from hB)
      have HXx := Lib.hid (show Box3 wc w.heap.size o x y from hX)
      clear hF hB hX
      obtain ⟨b0, b1, b2⟩ := HBx.out
      go_wp2_with fail
      refine (with_c (o := o) (x := x) (y := y) HF.out.rd (by have := HB.out; omega)).mono ?_
      rintro e w2 ⟨v2, rfl, hW⟩
      obtain ⟨gw, cw, rfl⟩ := hW.shp
      have HW := Lib.hid hW
      clear hW b0 b1 b2
      go_wp2_with fail
      refine (good_c v (n := n + 1) (c := cw) HW.out.rd (by have := HB.out; omega)).mono ?_
      rintro e w3 ⟨rfl, hF3⟩
      have HF3 := Lib.hid hF3
      clear hF3
      obtain ⟨g, hg⟩ : ∃ g, goodB v (l ++ [(o, x, y)]) = g := ⟨_, rfl⟩
      rw [hg]
      have HG := Lib.hid hg
      clear hg
      cases g
      · go_wp2
        go_ret
        exact ⟨rfl, (HF.out.fr.t HW.out.fr).t HF3.out⟩
      · obtain ⟨b0, b1, b2⟩ := HBx.out.nix (HW.out.fr.t HF3.out)
        go_wp2_with fail
        refine (sets_c o x y _).mono ?_
        rintro e w4 ⟨rfl, hF4⟩
        have HF4 := Lib.hid ((HW.out.fr.t HF3.out).t hF4)
        clear hF4 b0 b1 b2
        obtain ⟨s, hs⟩ : ∃ s, factB (o, x, y) = s := ⟨_, rfl⟩
        rw [hs]
        have HS := Lib.hid hs
        clear hs
        cases s
        · go_wp2
          go_ret
          exact ⟨rfl, HF.out.fr.t HF4.out⟩
        · have ONE := Lib.hid (One.mk' HG.out HS.out)
          have ho0 : 0 ≤ o := ONE.out.o0
          have ho3 : o ≤ 3 := ONE.out.o3
          have HFR := Lib.hid (HF.out.fr.t HF4.out)
          have HL4 := Lib.hid (HF.out.rd.nix HF4.out)
          have HB4 := Lib.hid (HBx.out.nix HF4.out)
          have HX4 := Lib.hid (HXx.out.nix HF4.out)
          have hni : (n : Int) ≤ 64 := by have := ONE.out.len; have := H.out.2; omega
          obtain ⟨V, hV⟩ : ∃ V : Nat, v = V := ⟨v.toNat, by have := ONE.out.g.v0; omega⟩
          subst hV
          have HV12 := Lib.hid (show V ≤ 12 by have := ONE.out.g.v12; omega)
          go_wp2_with fail
          refine (all_c (V := V) HV12.out).mono ?_
          rintro e w5 ⟨vq, rfl, hQ⟩
          obtain ⟨q, hq⟩ : ∃ q, quests V 4 7 = q := ⟨_, rfl⟩
          have hAQ := quests_ask (v := V) (f := 4) (t := 7) (by omega) (by omega)
          have hLQ := quests_len (v := V) (f := 4) (t := 7) HV12.out (by omega) (by omega)
          have hKQ : ∀ z ∈ quests V 4 7, (4 : Int) ≤ z.1 ∧ z.1 ≤ 7 := fun z hz => by have := quests_all (f := 4) (t := 7) hz (by omega); omega
          rw [hq] at hQ hAQ hLQ hKQ
          clear hq
          obtain ⟨Q, hQl⟩ : ∃ Q, q.length = Q := ⟨_, rfl⟩
          have hQ : Fsh w4 w5 40 3 vq q.length (z3s q) := hQ
          rw [hQl] at hQ hLQ
          obtain ⟨gq, cq, rfl⟩ := hQ.shp
          have HQ := Lib.hid (And.intro hQ (And.intro hAQ (And.intro hQl hKQ)))
          have HLQ := Lib.hid hLQ
          have hqi : (Q : Int) ≤ 576 := by omega
          clear hQ hAQ hQl hLQ hKQ
          obtain ⟨b0, b1, b2⟩ := HB4.out.nix HQ.out.1.fr
          have HB6 := Lib.hid ((HB4.out.nix HQ.out.1.fr).nix (Fr.al w5 (.cells #[.int .i64 o, .int .i64 x, .int .i64 y] 40)))
          have f6 := Fr.al w5 (.cells #[.int .i64 o, .int .i64 x, .int .i64 y] 40)
          have hz1 := rd_lit (w := w5) (T := 40) rfl [(o, x, y)] _ (show [.int .i64 o, .int .i64 x, .int .i64 y] = z3s [(o, x, y)] from rfl) 1 rfl
          have hz2 := rd_lit (w := w5.alloc (.cells #[.int .i64 o, .int .i64 x, .int .i64 y] 40)) (T := 40) (size_alloc _ _) [(o, x, y)] _ (show [.int .i64 o, .int .i64 x, .int .i64 y] = z3s [(o, x, y)] from rfl) 1 rfl
          have hP := parts_lit (w := (w5.alloc (.cells #[.int .i64 o, .int .i64 x, .int .i64 y] 40)).alloc (.cells #[.int .i64 o, .int .i64 x, .int .i64 y] 40)) (g := w5.heap.size + 1 + 1) (T := 24) (by rw [size_alloc, size_alloc]) _ _ (.cons (prt_of (c := c1) (HL4.out.nix (HQ.out.1.fr.t (f6.a _)))) (.cons (prt_of (c := 1) (hz1.nix (Fr.al _ _))) (.cons (prt_of (c := cq) (HQ.out.1.rd.nix (f6.a _))) (.cons (prt_of (c := 1) hz2) (.cons (prt_of (c := cq) (HQ.out.1.rd.nix (f6.a _))) .nil))))) 5 rfl
          have HP := Lib.hid hP
          have HRUN := Lib.hid (show RunOK [l, [(o, x, y)], q, [(o, x, y)], q].flatten by
            have l0 := ONE.out.len
            have l1 := sets_le l
            have l2 := HQ.out.2.2.1
            have l3 := HLQ.out
            have l4 := sets_ask HQ.out.2.1
            have r0 := ONE.out.g.left.run
            have r1 := ONE.out.more r0 (by have l5 := sets_le [(o, x, y)]; simp only [List.length_cons, List.length_nil] at l5; first | omega | (simp only [sets_app]; omega)) (by first | omega | (simp only [List.length_append, List.length_cons, List.length_nil]; omega))
            have r2 := r1.ask ONE.out.g.v12 HQ.out.2.1 (by first | omega | (simp only [List.length_append, List.length_cons, List.length_nil]; omega))
            have r3 := ONE.out.more r2 (by have l5 := sets_le [(o, x, y)]; simp only [List.length_cons, List.length_nil] at l5; first | omega | (simp only [sets_app]; omega)) (by first | omega | (simp only [List.length_append, List.length_cons, List.length_nil]; omega))
            have r4 := r3.ask ONE.out.g.v12 HQ.out.2.1 (by first | omega | (simp only [List.length_append, List.length_cons, List.length_nil]; omega))
            simpa using r4)
          clear hP f6 hz1 hz2
          go_wp2_with (first | (with_reducible refine wpList_ld (o := ⟨some 44, _, _, _, _, _⟩) rfl 40 (.tmp 8) rfl _ rfl #[.int .i64 o, .int .i64 x, .int .i64 y] _ (box3_list HB6.out) Try.underlying40 rfl (by kernel_rfl) ?_) | fail)
          clear b0 b1 b2
          refine (run_c (V : Int) HP.out (by omega) HRUN.out).mono ?_
          rintro e w6 ⟨A5, c5, rfl, hR5, hF6, hc5, hm5, hg5⟩
          have eN : [l, [(o, x, y)], q, [(o, x, y)], q].flatten.length = n + (1 + (Q + (1 + Q))) := by have e1 := H.out.2; have e2 := HQ.out.2.2.1; simp only [List.flatten_cons, List.flatten_nil, List.length_append, List.length_cons, List.length_nil, e1, e2]; omega
          obtain ⟨N, hN⟩ : ∃ N, [l, [(o, x, y)], q, [(o, x, y)], q].flatten.length = N := ⟨_, rfl⟩
          rw [hN] at eN hR5 hc5 hg5 ⊢
          obtain ⟨g5, rfl⟩ := hg5 (by omega)
          obtain ⟨p, b, hO, hp⟩ := twice_z (l := l) (z := (o, x, y)) ONE.out.op ONE.out.ne HQ.out.2.1
          have eL : outz [l, [(o, x, y)], q, [(o, x, y)], q].flatten = outz l ++ ([b] ++ (p ++ ([b] ++ p))) := by rw [← hO]; simp
          have lo : (outz l).length = n := by rw [outz_len]; exact H.out.2
          have hNi : (N : Int) ≤ 4000 := by have := HLQ.out; have := ONE.out.len; have := H.out.2; omega
          have HFR5 := Lib.hid ((HFR.out.t HQ.out.1.fr).t (((Fr.al _ _).t ((Fr.al _ _).a _)).t hF6))
          rw [HQ.out.2.2.1] at hp
          have k0 := ans_at (k := 0) hR5 eL lo rfl
          have k1 := ans_at (k := 1 + (Q + 0)) hR5 eL lo (get_part (p := [b]) rfl (get_part hp rfl))
          rw [Nat.add_zero] at k0 k1
          rw [← Nat.add_assoc] at k1
          have lo1 : (outz l ++ [b]).length = n + 1 := by rw [List.length_append, lo]; rfl
          have HA := Lib.hid (part_at (a := outz l ++ [b]) (p := p) (t := [b] ++ p) hR5 (by rw [eL]; simp) lo1 hp)
          have HE := Lib.hid (drop_last (a := outz l ++ ([b] ++ (p ++ [b]))) (by rw [eL]; simp) (rdlen hR5) hp).symm
          have HR := Lib.hid hR5
          have HT := Lib.hid (show Q ≤ N ∧ N ≤ c5 ∧ c5 ≤ maxLen ∧ N ≤ 1000000 from ⟨by omega, hc5, hm5, by omega⟩)
          obtain ⟨T, hT⟩ : ∃ T, n + 1 + Q = T := ⟨_, rfl⟩
          have HTT := Lib.hid hT
          have i0 : (n : Int) < (N : Int) := by omega
          have i1 : (T : Int) < (N : Int) := by omega
          have i2 : (T : Int) ≤ (c5 : Int) := by omega
          have i3 : (n : Int) + 1 ≤ (T : Int) := by omega
          have hci : (c5 : Int) ≤ 9223372036854775807 := by unfold maxLen at hm5; omega
          have hcn : ¬ c5 = n + 1 := by omega
          have hTQ : T - (n + 1) = Q := by omega
          have s1 : IntKind.i64.wrap ((n : Int) + 1) = (n : Int) + 1 := IntWalk.i64_in _ (by omega)
          have t1 : ((n : Int) + 1).toNat = n + 1 := by omega
          have p0 : (0 : Int) ≤ (n : Int) := by omega
          have p1 : (0 : Int) ≤ (n : Int) + 1 := by omega
          have p2 : (0 : Int) ≤ (T : Int) := by omega
          have eT : (n : Int) + 1 + (Q : Int) = (T : Int) := by omega
          rw [hT] at k1
          have HeT := Lib.hid eT
          clear hR5 hF6 hc5 hm5 hg5 eN hN hO eL lo lo1 hp hT eT
          go_upto_region 9 with fail
          rw [HeT.out]
          cases b
          all_goals
            go_quiet ((first | (go_at_call 44; exact Calls.quiet_of_same (tailq_c HT.out.1 HT.out.2.1 HT.out.2.2.1)) | (go_at_call 37; exact Calls.quiet_of (sameq_tail (HA.out.nix (Fr.drewN _ _ _)) (HR.out.nix (Fr.drewN _ _ _)) HT.out.1 HT.out.2.1 HT.out.2.2.2 HE.out))))
            go_wp2
            go_ret
            exact ⟨rfl, HFR5.out.t (Fr.drewN _ _ _)⟩
end Go.Proofs.Ytapnmgkpljlgmaa

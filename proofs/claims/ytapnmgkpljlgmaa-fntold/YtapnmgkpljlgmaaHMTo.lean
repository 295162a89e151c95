/- The walk of FnTold. -/
import Derived.Test.YtapnmgkpljlgmaaG25
set_option linter.unusedVariables false
set_option linter.unusedSimpArgs false
namespace Go.Proofs.Ytapnmgkpljlgmaa
open Go.RowKit
attribute [local go_sem ↓] Go.wp_at_zero Go.wp_at_succ
set_option maxRecDepth 10000 in
set_option maxHeartbeats 16000000 in
theorem FnTold_c {v o x y : Int} {A : Option Addr} {n c : Nat} {l : List Z3} {w : World} (h : Rd w 3 A n (z3s l)) (hn : n ≤ maxLen) :
    Calls Try.prog 30 #[.int .i64 v, .slice A n c, .agg #[.int .i64 o, .int .i64 x, .int .i64 y]] w (Done w) := by
  have hlen : l.length = n := by have := h.1; rw [z3s_len] at this; omega
  have hm := maxLen_int hn
  have H := Lib.hid (And.intro h hlen)
  clear h hlen hn
  by_cases hbig : 2147483647 < n
  · have hb : decide ((2147483647 : Int) < (n : Int)) = true := by rw [decide_eq_true_eq]; omega
    go_enter Try.func30, Try.ntmps30
    go_wp2
    go_ret
    exact ⟨rfl, Fr.al _ _⟩
  · have hb : decide ((2147483647 : Int) < (n : Int)) = false := by rw [decide_eq_false_iff_not]; omega
    have HB := Lib.hid (show n < 2147483648 by omega)
    have HX := Lib.hid (box3_new w o x y 47)
    clear hbig
    go_enter Try.func30, Try.ntmps30
    go_upto_region 3 with fail
    have F0 := Lib.hid (Fr.al w (.cells #[.int .i64 o, .int .i64 x, .int .i64 y] 47))
    have HZ := Lib.hid (show w.heap.size < (w.alloc (.cells #[.int .i64 o, .int .i64 x, .int .i64 y] 47)).heap.size by simp)
    obtain ⟨w0, hw0⟩ : ∃ w0, w.alloc (.cells #[.int .i64 o, .int .i64 x, .int .i64 y] 47) = w0 := ⟨_, rfl⟩
    rw [hw0] at F0 HX HZ ⊢
    clear hw0
    go_cut [7, 8] from 15 to 23 (fun a b wx => HeadRel w n l o x y a b wx)
    case first =>
      have c0 := HX.out.1
      have c1 := HX.out.2.1
      have c2 := HX.out.2.2
      go_region_held3 (fun w' => w'.cell? ⟨w.heap.size, 0, none⟩ = some (.int .i64 o) ∧ w'.cell? ⟨w.heap.size, 1, none⟩ = some (.int .i64 x) ∧ w'.cell? ⟨w.heap.size, 2, none⟩ = some (.int .i64 y)) (first | exact HX.out | exact HX1.out | exact HX1.out.nix (Fr.al _ _) | exact HX.out.nix ((Fr.al _ _).t (Fr.drew _ _)) | exact HX1.out.nix ((Fr.drew _ _).t (Fr.al _ _)) | exact (hdB HF.out (F0.out.t ((Fr.al _ _).t (Fr.drew _ _))) HX1.out (by simp) HZ.out HHZ.out).choose_spec.choose_spec.choose_spec.2.2.2.2 | go_keep)
        (first
          | (go_at_call 40; (with_reducible refine (conv_c (H.out.1.nix (F0.out.t (by first | exact Fr.drew _ _ | exact (Fr.al _ _).t (Fr.drew _ _)))) HB.out).mono ?_); rintro e w1 ⟨v1, rfl, hF⟩; obtain ⟨A1, c1, rfl⟩ := hF.shp; have HF := Lib.hid hF; clear hF; have f1 : Fr w0 w1 Nix := (by first | exact (Fr.drew _ _).t HF.out.fr | exact ((Fr.al _ _).t (Fr.drew _ _)).t HF.out.fr); have HX1 := Lib.hid (HX.out.nix f1); clear f1; (try (have hz : w1.heap[w0.heap.size]? = some (.cells #[.int .i64 0, .int .i64 0, .int .i64 0] 40 (0, 0)) := (HF.out.fr.block _ (by simp) (fun e => e)).trans (heap_alloc_new w0 _); have HHZ := Lib.hid hz; have z0 := cell_block (j := 0) hz; have z1 := cell_block (j := 1) hz; have z2 := cell_block (j := 2) hz; have y0 := frozen_block (j := 0) hz; have y1 := frozen_block (j := 1) hz; have y2 := frozen_block (j := 2) hz; clear hz))))
      all_goals
        go_wp2_with fail
        go_meet
        first
          | exact hdA HF.out (F0.out.t (Fr.drew _ _)) HX1.out
          | exact hdB HF.out (F0.out.t ((Fr.al _ _).t (Fr.drew _ _))) HX1.out (by simp) HZ.out HHZ.out
    case rest =>
      obtain ⟨g1, c1, g2, rfl, rfl, hF, hB, hX⟩ := hcut
      have HF := Lib.hid hF
      have HBx := Lib.hid (show Box3 wc g2 o x y from hB)
      have HXx := Lib.hid (show Box3 wc w.heap.size o x y from hX)
      clear hF hB hX
      obtain ⟨b0, b1, b2⟩ := HBx.out
      go_wp2_with fail
      refine (with_c (o := o) (x := x) (y := y) HF.out.rd (by have := HB.out; omega)).mono ?_
      rintro e w2 ⟨v2, rfl, hW⟩
      obtain ⟨gw, cw, rfl⟩ := hW.shp
      have HW := Lib.hid hW
      clear hW b0 b1 b2
      go_wp2_with fail
      refine (good_c v (n := n + 1) (c := cw) HW.out.rd (by have := HB.out; omega)).mono ?_
      rintro e w3 ⟨rfl, hF3⟩
      have HF3 := Lib.hid hF3
      clear hF3
      obtain ⟨g, hg⟩ : ∃ g, goodB v (l ++ [(o, x, y)]) = g := ⟨_, rfl⟩
      rw [hg]
      have HG := Lib.hid hg
      clear hg
      cases g
      · go_wp2
        go_ret
        exact ⟨rfl, (HF.out.fr.t HW.out.fr).t HF3.out⟩
      · obtain ⟨b0, b1, b2⟩ := HBx.out.nix (HW.out.fr.t HF3.out)
        go_wp2_with fail
        refine (sets_c o x y _).mono ?_
        rintro e w4 ⟨rfl, hF4⟩
        have HF4 := Lib.hid ((HW.out.fr.t HF3.out).t hF4)
        clear hF4 b0 b1 b2
        obtain ⟨s, hs⟩ : ∃ s, factB (o, x, y) = s := ⟨_, rfl⟩
        rw [hs]
        have HS := Lib.hid hs
        clear hs
        cases s
        · go_wp2
          go_ret
          exact ⟨rfl, HF.out.fr.t HF4.out⟩
        · have ONE := Lib.hid (One.mk' HG.out HS.out)
          have ho0 : 0 ≤ o := ONE.out.o0
          have ho3 : o ≤ 3 := ONE.out.o3
          have HFR := Lib.hid (HF.out.fr.t HF4.out)
          have HL4 := Lib.hid (HF.out.rd.nix HF4.out)
          have HB4 := Lib.hid (HBx.out.nix HF4.out)
          have HX4 := Lib.hid (HXx.out.nix HF4.out)
          have hni : (n : Int) ≤ 64 := by have := ONE.out.len; have := H.out.2; omega
          obtain ⟨d0, d1, d2⟩ := HX4.out
          go_upto_region 7 with fail
          clear d0 d1 d2
          obtain ⟨w5, hw5⟩ : ∃ w5, w4.alloc (.cells #[.int .i64 (o + 4), .int .i64 x, .int .i64 y] 40) = w5 := ⟨_, rfl⟩
          have f5 : Fr w4 w5 Nix := hw5 ▸ Fr.al w4 (.cells #[.int .i64 (o + 4), .int .i64 x, .int .i64 y] 40)
          have hE : Box3 w5 w4.heap.size (o + 4) x y := hw5 ▸ box3_new w4 (o + 4) x y 40
          rw [hw5]
          have HF5 := Lib.hid f5
          obtain ⟨b0, b1, b2⟩ := HB4.out.nix f5
          obtain ⟨e0, e1, e2⟩ := hE
          obtain ⟨q, hq⟩ : ∃ q : List Z3, [(o, x, y), (o + 4, x, y)] = q := ⟨_, rfl⟩
          have HQ := Lib.hid hq
          have HQR := Lib.hid (rd_lit (w := w5) (T := 40) rfl q _ (show [.int .i64 o, .int .i64 x, .int .i64 y, .int .i64 (o + 4), .int .i64 x, .int .i64 y] = z3s q by rw [← hq]; rfl) 2 (by rw [← hq]; rfl))
          have hP := fun c => parts_lit (w := w5.alloc (.cells #[.int .i64 o, .int .i64 x, .int .i64 y, .int .i64 (o + 4), .int .i64 x, .int .i64 y] 40)) (T := 24) (size_alloc _ _) _ _ (.cons (prt_of (c := c1) (HL4.out.nix (f5.a _))) (.cons (prt_of (c := c) HQR.out) .nil)) 2 rfl
          have HP := Lib.hid hP
          have HRUN := Lib.hid (show RunOK [l, q].flatten by
            have h1 := ONE.out.more ONE.out.g.left.run (by have := sets_le l; have := ONE.out.len; omega) (by have := ONE.out.len; omega)
            have h2 : AskZ v [(o + 4, x, y)] := fun z hz => by
              rw [List.mem_singleton.1 hz]
              have := ONE.out.wf.ok (by simp only; omega) (by simp only; omega)
              exact ⟨⟨by simp only; omega, by simp only; omega, fun _ _ => this⟩, by simp only; omega⟩
            have := h1.ask ONE.out.g.v12 h2 (by have := ONE.out.len; simp; omega)
            rw [← hq]
            simpa using this)
          clear hP hq f5 hw5
          go_wp2_with fail
          clear b0 b1 b2 e0 e1 e2
          refine (run_c v (HP.out _) (by omega) HRUN.out).mono ?_
          rintro e w6 ⟨A5, c5, rfl, hR5, hF6, hc5, hm5, hg5⟩
          have eN : [l, q].flatten.length = n + 2 := by rw [← HQ.out]; simp [H.out.2]
          obtain ⟨N, hN⟩ : ∃ N, [l, q].flatten.length = N := ⟨_, rfl⟩
          rw [hN] at eN hR5 hc5 hg5 ⊢
          obtain ⟨g5, rfl⟩ := hg5 (by omega)
          obtain ⟨p, r, hO, himp⟩ := told_z (l := l) (z := (o, x, y)) (a := (o + 4, x, y)) ONE.out.op (by unfold stz; simp only; congr 1; omega)
          have eL : outz [l, q].flatten = outz l ++ [p, r] := by rw [← hO, ← HQ.out]; simp
          have lo : (outz l).length = n := by rw [outz_len]; exact H.out.2
          have k0 := ans_at (k := 0) hR5 eL lo rfl
          have k1 := ans_at (k := 1) hR5 eL lo rfl
          have HFR5 := Lib.hid (((HFR.out.t HF5.out).a _).t ((Fr.al _ _).t hF6))
          rw [Nat.add_zero] at k0
          have HIM := Lib.hid himp
          have i0 : (n : Int) < (N : Int) := by omega
          have i1 : (n : Int) + 1 < (N : Int) := by omega
          clear hR5 hF6 hc5 hm5 hg5 eN hN hO eL lo himp
          cases p
          · go_wp2
            go_ret
            exact ⟨rfl, HFR5.out⟩
          · obtain rfl : r = true := HIM.out rfl
            go_wp2
            go_ret
            exact ⟨rfl, HFR5.out⟩
end Go.Proofs.Ytapnmgkpljlgmaa

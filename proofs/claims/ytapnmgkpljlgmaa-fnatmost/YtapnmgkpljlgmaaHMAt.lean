/- The walk of FnAtMost. -/
import Derived.Test.YtapnmgkpljlgmaaG32
import Derived.Test.YtapnmgkpljlgmaaG29
import Derived.Test.YtapnmgkpljlgmaaG22
set_option linter.unusedVariables false
set_option linter.unusedSimpArgs false
namespace Go.Proofs.Ytapnmgkpljlgmaa
open Go.RowKit
set_option maxRecDepth 10000 in
set_option maxHeartbeats 8000000 in
theorem FnAtMost_c {v x y : Int} {A : Option Addr} {n c : Nat} {ps : List (Int × Int)} {w : World} (h : Rd w 2 A n (z2s ps)) (hn : n ≤ maxLen) :
    Calls Try.prog 7 #[.int .i64 v, .slice A n c, .int .i64 x, .int .i64 y] w (Done w) := by
  have hlen : ps.length = n := by have := h.1; rw [z2s_len] at this; omega
  have hm := maxLen_int hn
  have H := Lib.hid (And.intro h hlen)
  clear h hlen hn
  by_cases hbig : 2147483647 < n
  · have hb : decide ((2147483647 : Int) < (n : Int)) = true := by rw [decide_eq_true_eq]; omega
    go_enter Try.func7, Try.ntmps7
    go_wp2
    go_ret
    exact ⟨rfl, Fr.refl _ _⟩
  · have hb : decide ((2147483647 : Int) < (n : Int)) = false := by rw [decide_eq_false_iff_not]; omega
    have HB := Lib.hid (show n < 2147483648 by omega)
    clear hbig
    go_enter Try.func7, Try.ntmps7
    go_wp2_with fail
    refine (facts_c 1 5 x y H.out.1 HB.out).mono ?_
    rintro e w1 ⟨v1, rfl, hF⟩
    obtain ⟨A0, c0, rfl⟩ := hF.shp
    have HF0 := Lib.hid hF
    clear hF
    have hown := HF0.out.own
    have HL := Lib.hid (lim24 (n := n + 1) (by have := HB.out; omega))
    go_wp2_with (first
      | (at_builtin; refine wpList_app _ rfl (.tmp 19) (.tmp 23) 24 rfl 40 _ 3 24 Try.underlying24 info_step rfl (by decide) _ _ _ rfl (hown.alloc _) ⟨_, 0, none⟩ 1 1 (z3c (6, x, y)) rfl rfl (by decide) (cells_at _ _ rfl _ _) (z3_one _) HL.out.1 HL.out.2 ?_)
      | fail)
    intro g0 cap0 wa hown1 hgrow1 hnew1
    obtain ⟨N, hN⟩ : ∃ N, n + 2 = N := ⟨_, rfl⟩
    have hF : Fsh w wa 40 3 (.slice (some ⟨g0, 0, none⟩) (n + 1 + 1) cap0) (n + 1 + 1) (z3s (ps.map (fun p => ((1 : Int), p.1, p.2)) ++ [(5, x, y), (6, x, y)])) := by
      have := HF0.out.app (Fr.al _ _) hown1 hgrow1 (by simpa using hnew1)
      have e : (ps.map (fun p => ((1 : Int), p.1, p.2)) ++ [(5, x, y), (6, x, y)] : List Z3) = (ps.map (fun p => ((1 : Int), p.1, p.2)) ++ [(5, x, y)]) ++ [(6, x, y)] := by simp
      rw [e, z3s_app]
      exact this
    rw [show n + 1 + 1 = N from hN] at hF ⊢
    clear hown1 hgrow1 hnew1 hown
    have HNN := Lib.hid hN
    have HF := Lib.hid hF
    clear hF hN
    go_wp2_with fail
    refine (good_c v (n := N) (c := cap0) HF.out.rd (by have := HB.out; have := HNN.out; omega)).mono ?_
    rintro e w2 ⟨rfl, hF2⟩
    have HF2 := Lib.hid (HF.out.nix hF2)
    clear hF2
    obtain ⟨g, hg⟩ : ∃ g, goodB v (ps.map (fun p => ((1 : Int), p.1, p.2)) ++ [(5, x, y), (6, x, y)]) = g := ⟨_, rfl⟩
    rw [hg]
    have HG := Lib.hid hg
    clear hg
    cases g
    · go_wp2
      go_ret
      exact ⟨rfl, HF2.out.fr⟩
    · have G := goodB_z HG.out
      obtain ⟨V, hV⟩ : ∃ V : Nat, v = V := ⟨v.toNat, by have := G.v0; omega⟩
      subst hV
      obtain ⟨X, Y, rfl, rfl, hX, hY, hXY⟩ := wstp (G.wf (5, x, y) (by simp)) (by omega)
      obtain ⟨hps, hpr⟩ := good_pairs G (by omega) (by omega)
      obtain ⟨l, hl2⟩ : ∃ l, tnat ps = l := ⟨_, rfl⟩
      rw [hl2] at hps hpr
      subst hps
      have HGZ := Lib.hid G
      have HL := Lib.hid (And.intro hpr (And.intro (show X < 12 by have := G.v12; omega) (And.intro (show Y < 12 by have := G.v12; omega) (And.intro hXY (show n ≤ 63 by have := G.len; simp only [List.length_append, List.length_map, List.length_cons, List.length_nil] at this; have := H.out.2; omega)))))
      have hNi : (N : Int) ≤ 66 := by have := HNN.out; have := HL.out.2.2.2.2; omega
      clear hl2 hpr hX hY hXY G
      go_wp2_with fail
      refine (AtMost_c (H.out.1.nix HF2.out.fr) (by have := HL.out.2.2.2.2; omega) HL.out.1 HL.out.2.2.2.1 HL.out.2.1 HL.out.2.2.1).mono ?_
      rintro e w3 ⟨v3, rfl, hF3⟩
      obtain ⟨A3, c3, rfl⟩ := hF3.shp
      have HF3 := Lib.hid hF3
      have HS3 := Lib.hid (HF2.out.nix hF3.fr)
      clear hF3
      obtain ⟨b1, hb1⟩ : ∃ b, ((tell 1 l).1.ans 5 X Y).2 = b := ⟨_, rfl⟩
      obtain ⟨b2, hb2⟩ : ∃ b, ((tell 1 l).1.ans 6 X Y).2 = b := ⟨_, rfl⟩
      have HO := Lib.hid (show refs V (sts ((nn l).map (fun p => ((1 : Int), p.1, p.2)) ++ [(5, (X : Int), (Y : Int)), (6, (X : Int), (Y : Int))])) = (tell 1 l).2 ++ [b1, b2] by
        rw [← hb1, ← hb2]
        exact (refs_outs HGZ.out.good (pairs_noN (op := 1) (by omega) l (by simp))).trans (tell_outs2 (op := 1) (by omega) l X Y))
      rw [hb1, hb2]
      clear hb1 hb2
      have hown := HF3.out.own
      have HLB := Lib.hid (show (n + 2) * 1 ≤ 140737488355328 ∧ n + 2 ≤ 1000000000000 by have := HL.out.2.2.2.2; omega)
      go_wp2_with (at_builtin; refine wpList_app _ rfl _ _ 28 rfl 4 _ 1 1 Try.underlying28 (by kernel_rfl : _ = some (some (.bool false), 1, 1)) rfl (by decide) _ _ _ rfl (hown.alloc _) ⟨w3.heap.size, 0, none⟩ 2 2 [.bool b1, .bool b2] rfl rfl (by decide) (cells_at _ _ rfl _ _) (by simp [Value.oneCell']) HLB.out.1 HLB.out.2 ?_)
      intro g4 c4 w4 hown1 hgrow1 hnew1
      have hF4 : Fsh w2 w4 4 1 (.slice (some ⟨g4, 0, none⟩) (n + 2) c4) (n + 2) (bls ((tell 1 l).2 ++ [b1, b2])) := by
        rw [bls_app]
        exact HF3.out.app (Fr.al _ _) hown1 hgrow1 (by simpa using hnew1)
      rw [show n + 2 = N from HNN.out] at hF4 ⊢
      have HF4 := Lib.hid hF4
      have HS4 := Lib.hid (HF2.out.nix hF4.fr)
      clear hown1 hgrow1 hnew1 hown hF4
      go_wp2_with fail
      refine (refrun_c HS4.out.rd HGZ.out).mono ?_
      rintro e w5 ⟨v5, rfl, hS⟩
      obtain ⟨A5, c5, rfl⟩ := hS.shp
      rw [HO.out] at hS
      have HS := Lib.hid hS
      have HFR := Lib.hid (HS4.out.fr.t hS.fr)
      clear hS
      go_wp2_with fail
      refine (same_c (HF4.out.rd.nix HS.out.fr) HS.out.rd (by omega) (by omega)).mono ?_
      rintro e w6 ⟨rfl, hF6⟩
      have HF6 := Lib.hid (HFR.out.t hF6)
      clear hF6
      rw [decide_eq_true rfl]
      go_wp2
      go_ret
      exact ⟨rfl, HF6.out⟩
end Go.Proofs.Ytapnmgkpljlgmaa

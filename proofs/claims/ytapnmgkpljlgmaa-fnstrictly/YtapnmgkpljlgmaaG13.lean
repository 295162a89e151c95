/- SetEqual. -/
import Derived.Test.YtapnmgkpljlgmaaG12
set_option linter.unusedVariables false
set_option linter.unusedSimpArgs false
namespace Go.Proofs.Ytapnmgkpljlgmaa
open Go.RowKit

def PS.EqB (S : PS) (i j : Nat) (S' : PS) (b : Bool) : Prop :=
  (S.ne i j = true ∧ S' = S ∧ b = false) ∨
  (S.ne i j = false ∧ reachB S.nd i j false = true ∧ Collapsed S i j S' b) ∨
  (S.ne i j = false ∧ reachB S.nd i j false = false ∧ reachB S.nd j i false = true ∧ Collapsed S j i S' b) ∨
  (S.ne i j = false ∧ reachB S.nd i j false = false ∧ reachB S.nd j i false = false ∧ b = true ∧
    ∃ T, Joined S i j T ∧ ∃ ids : List Nat, ids.Nodup ∧ (∀ id, id ∈ ids ↔ S.vl id ≠ 0) ∧ S' = T.alias i (setB (fun _ => false) j) ids)
def PS.SetE (S : PS) (x y : Nat) (S' : PS) (b : Bool) : Prop :=
  (S.vl x = 0 ∧ S.vl y = 0 ∧ S' = (S.newRoot x).aliasV x y ∧ b = true) ∨
  (S.vl x ≠ 0 ∧ S.vl y = 0 ∧ S' = S.aliasV x y ∧ b = true) ∨
  (S.vl x = 0 ∧ S.vl y ≠ 0 ∧ S' = S.aliasV y x ∧ b = true) ∨
  (S.vl x ≠ 0 ∧ S.vl y ≠ 0 ∧ S.vl x = S.vl y ∧ S' = S ∧ b = true) ∨
  (S.vl x ≠ 0 ∧ S.vl y ≠ 0 ∧ S.vl x ≠ S.vl y ∧ S.EqB (S.vl x) (S.vl y) S' b)

/-- What is held of a joined state. -/
structure JoinOK (S : PS) (i j : Nat) (T : PS) : Prop where
  jn : Joined S i j T
  wf : WF1 T
  ln : T.nodes.length ≤ S.nodes.length + 1
  le : S.nodes.length ≤ T.nodes.length
  lg : T.lg.length ≤ S.lg.length + 2
  vl : T.vl = S.vl

set_option maxRecDepth 5000 in
set_option maxHeartbeats 2000000 in
theorem SetEqual_c {w : World} {p : Nat} {S : PS} {L : Lay} (h : Rep w p S L) (wf : WF1 S) (rok : RootOK S) (room : Room S) {a1 a2 x y : Nat} (h1 : IsV w L a1 x) (h2 : IsV w L a2 y) (hxy : x ≠ y) :
    Calls Try.prog 91 #[.pointer (some ⟨p, 0, none⟩), .pointer (some ⟨a1, 0, none⟩), .pointer (some ⟨a2, 0, none⟩)] w (SPost p w L (S.SetE x y)) := by
  have hc1 := h1.cell
  have hc2 := h2.cell
  have hid := eqq_false hxy
  have H0 := Lib.hid (And.intro h (And.intro wf (And.intro h1 (And.intro h2 (And.intro hxy room)))))
  have HR := Lib.hid rok
  have HS := Lib.hid (show S.nodes.length + 10 < 2147483648 ∧ S.lg.length + 40 < Lim ∧ S.last + 10 < 2147483647 ∧ S.nodes.length + 10 < Lim by
    have := room.sz; have := room.lg; have := wf.la; unfold Lim at *; omega)
  clear h wf h1 h2 hxy room rok
  obtain ⟨i, hi⟩ : ∃ i, S.vl x = i := ⟨_, rfl⟩
  obtain ⟨j, hj⟩ : ∃ j, S.vl y = j := ⟨_, rfl⟩
  have HI := Lib.hid (And.intro hi (And.intro hj (show i < S.nodes.length ∧ j < S.nodes.length from ⟨hi ▸ H0.out.2.1.va x, hj ▸ H0.out.2.1.va y⟩)))
  clear hi hj
  go_enter Try.func91, Try.ntmps91
  go_wp2
  go_quiet (fail)
  have F1 := Lib.hid (Fr.drewN w nq Nix)
  generalize w.drewN nq = w1 at *
  clear hc1 hc2 hid
  go_wp2_with fail
  refine (lookup_c (H0.out.1.nix F1.out) (H0.out.2.2.1.nix F1.out)).mono ?_
  rintro e w2 ⟨rfl, hF⟩
  have F2 := Lib.hid (F1.out.trans hF fun _ e => .inl e)
  clear hF
  go_wp2_with fail
  refine (lookup_c (H0.out.1.nix F2.out) (H0.out.2.2.2.1.nix F2.out)).mono ?_
  rintro e w3 ⟨rfl, hF⟩
  have F3 := Lib.hid (F2.out.trans hF fun _ e => .inl e)
  clear hF F2 F1
  obtain ⟨f1, hf1⟩ : ∃ b, (S.vl x != 0) = b := ⟨_, rfl⟩
  obtain ⟨f2, hf2⟩ : ∃ b, (S.vl y != 0) = b := ⟨_, rfl⟩
  rw [hf1, hf2, show S.vl x = i from HI.out.1, show S.vl y = j from HI.out.2.1]
  have HF := Lib.hid (And.intro hf1 hf2)
  have H3 := Lib.hid (And.intro (H0.out.1.nix F3.out) (And.intro (Ext.nix (L := L) F3.out) (And.intro (H0.out.2.2.1.nix F3.out) (H0.out.2.2.2.1.nix F3.out))))
  clear hf1 hf2
  obtain ⟨n1, hn1⟩ : ∃ n, S.last + 1 = n := ⟨_, rfl⟩
  have HN := Lib.hid hn1
  have HA := Lib.hid (show S.last + 1 = S.nodes.length from H0.out.2.1.la)
  clear hn1
  cases f1
  · have HX := Lib.hid (show S.vl x = 0 by simpa using HF.out.1)
    cases f2
    · have HY := Lib.hid (show S.vl y = 0 by simpa using HF.out.2)
      go_wp2_with fail
      refine (newnodeV_n H3.out.1 H3.out.2.2.1 HX.out (by have := HS.out; omega) (by have := HS.out; omega) (by have := HS.out; omega) HN.out).mono ?_
      rintro e w5 ⟨rfl, L5, hR, hE⟩
      have H5 := Lib.hid (And.intro hR (H3.out.2.1.trans hE))
      have HV := Lib.hid (And.intro (H3.out.2.2.1.ext hE) (H3.out.2.2.2.ext hE))
      clear hR hE
      have hc4 : w5.cell? ⟨p, 4, none⟩ = some L5.rv := by rw [cell_block H5.out.1.hp]; rfl
      have hrr := H5.out.1.hr
      have HLR := Lib.hid (lim4 (H5.out.1.rl_len (n := S.nodes.length) (fun r hr => H0.out.2.1.ro r hr)) (by have := HS.out; omega))
      have HRN := Lib.hid (show (S.newV x).rt n1 = false by rw [← HN.out]; exact H0.out.2.1.rt_new)
      go_wp2_with (at_builtin; refine wpList_app _ rfl _ _ 105 rfl 108 _ 1 4 Try.underlying105 info_u32 rfl (by decide) _ _ _ rfl (hrr.alloc _) ⟨w5.heap.size, 0, none⟩ 1 1 (u32Cell n1) rfl rfl (by decide) (cells_new _ _ _) (u32_one _) HLR.out.1 HLR.out.2 ?_; intro g1 cap1 x1 hown1 hgrow1 hnew1; obtain ⟨hcc1, hff1, N1, hQ1, hX1⟩ := H5.out.1.roots_app (Fr.alloc _ _ _) HRN.out hown1 hgrow1 hnew1; have J1 := Lib.hid (And.intro hQ1 (And.intro (H5.out.2.trans hX1) (And.intro (HV.out.1.ext hX1) (HV.out.2.ext hX1)))); clear hown1 hgrow1 hnew1 hQ1 hX1 hc4 hrr)
      refine (upush_c J1.out.1 7 n1 0 (by have := HS.out; simp [PS.newV]; omega)).mono ?_
      rintro e w6 ⟨rfl, L6, hR, hE⟩
      have H6 := Lib.hid (And.intro hR (And.intro (J1.out.2.1.trans hE) (And.intro (J1.out.2.2.1.ext hE) (J1.out.2.2.2.ext hE))))
      clear hR hE hcc1 hff1
      go_wp2_with fail
      refine (aliasnewnode_c H6.out.1 H6.out.2.2.1 H6.out.2.2.2 (by show upd S.vl x _ x ≠ 0; simp [upd]) (by show upd S.vl x _ y = 0; simp [upd, Ne.symm H0.out.2.2.2.2.1]; exact HY.out) (by have := HS.out; simp [PS.newV, PS.push]; omega)).mono ?_
      rintro e w7 ⟨rfl, L7, hR, hE⟩
      have H7 := Lib.hid (And.intro hR (H6.out.2.1.trans hE))
      clear hR hE
      go_wp2
      go_ret
      obtain rfl := HN.out
      exact ⟨_, true, .inl ⟨HX.out, HY.out, rfl, rfl⟩, rfl, L7, H7.out⟩
    · have HY := Lib.hid (show S.vl y ≠ 0 by simpa using HF.out.2)
      go_wp2_with fail
      refine (aliasnewnode_c H3.out.1 H3.out.2.2.2 H3.out.2.2.1 HY.out HX.out (by have := HS.out; omega)).mono ?_
      rintro e w4 ⟨rfl, L4, hR, hE⟩
      have H4 := Lib.hid (And.intro hR (H3.out.2.1.trans hE))
      clear hR hE
      go_wp2
      go_ret
      exact ⟨_, true, .inr (.inr (.inl ⟨HX.out, HY.out, rfl, rfl⟩)), rfl, L4, H4.out⟩
  · have HX := Lib.hid (show S.vl x ≠ 0 by simpa using HF.out.1)
    cases f2
    · have HY := Lib.hid (show S.vl y = 0 by simpa using HF.out.2)
      go_wp2_with fail
      refine (aliasnewnode_c H3.out.1 H3.out.2.2.1 H3.out.2.2.2 HX.out HY.out (by have := HS.out; omega)).mono ?_
      rintro e w4 ⟨rfl, L4, hR, hE⟩
      have H4 := Lib.hid (And.intro hR (H3.out.2.1.trans hE))
      clear hR hE
      go_wp2
      go_ret
      exact ⟨_, true, .inr (.inl ⟨HX.out, HY.out, rfl, rfl⟩), rfl, L4, H4.out⟩
    · have HY := Lib.hid (show S.vl y ≠ 0 by simpa using HF.out.2)
      by_cases hij : i = j
      · have hb := eqq_true hij
        have HIJ := Lib.hid hij
        clear hij
        go_wp2
        go_ret
        exact ⟨S, true, .inr (.inr (.inr (.inl ⟨HX.out, HY.out, HI.out.1.trans (HIJ.out.trans HI.out.2.1.symm), rfl, rfl⟩))), rfl, L, H3.out.1, H3.out.2.1⟩
      · have hb := eqq_false hij
        have HIJ := Lib.hid hij
        have HL := Lib.hid (show i < 2147483648 ∧ j < 2147483648 by have := HI.out; have := HS.out; omega)
        obtain ⟨n, hn⟩ : ∃ b, S.ne i j = b := ⟨_, rfl⟩
        have hno := isnoneq_c H3.out.1 i j (by have := HL.out; omega) (by have := HL.out; omega)
        rw [hn] at hno
        have HNE := Lib.hid hn
        have HFIN : ∀ S' b, S.EqB i j S' b → S.SetE x y S' b := fun S' b h =>
          .inr (.inr (.inr (.inr ⟨HX.out, HY.out, fun e => HIJ.out (HI.out.1.symm.trans (e.trans HI.out.2.1)), by rw [HI.out.1, HI.out.2.1]; exact h⟩)))
        have HFIN := Lib.hid HFIN
        clear hij hn
        go_wp2_with fail
        refine hno.mono ?_
        clear hno
        rintro e w4 ⟨rfl, hF⟩
        have H4 := Lib.hid (And.intro (H3.out.1.nix hF) (H3.out.2.1.trans (Ext.nix hF)))
        clear hF
        cases n
        · obtain ⟨b1, hb1⟩ : ∃ b, reachB S.nd i j false = b := ⟨_, rfl⟩
          have hre := reaches_c H4.out.1 H0.out.2.1.toWF0 i j false HI.out.2.2.1
          rw [hb1] at hre
          have HB1 := Lib.hid hb1
          clear hb1
          go_wp2_with fail
          refine hre.mono ?_
          clear hre
          rintro e w5 ⟨rfl, hF⟩
          have H5 := Lib.hid (And.intro (H4.out.1.nix hF) (H4.out.2.trans (Ext.nix hF)))
          clear hF
          cases b1
          · obtain ⟨b3, hb3⟩ : ∃ b, reachB S.nd j i false = b := ⟨_, rfl⟩
            have hre := reaches_c H5.out.1 H0.out.2.1.toWF0 j i false HI.out.2.2.2
            rw [hb3] at hre
            have HB3 := Lib.hid hb3
            clear hb3
            go_wp2_with fail
            refine hre.mono ?_
            clear hre
            rintro e w7 ⟨rfl, hF⟩
            have H7 := Lib.hid (And.intro (H5.out.1.nix hF) (H5.out.2.trans (Ext.nix hF)))
            clear hF
            cases b3
            · go_wp2_with fail
              have hrt : ∀ z, S.vl z ≠ 0 → ∃ r, S.rt r = true ∧ reachB S.nd r (S.vl z) false = true := HR.out
              have HRT := Lib.hid (And.intro (HI.out.1 ▸ hrt x HX.out) (HI.out.2.1 ▸ hrt y HY.out))
              clear hrt
              refine (findroot_c H7.out.1 H0.out.2.1.toWF0 i H0.out.2.1.ro HRT.out.1).mono ?_
              rintro e w8 ⟨r1, hr1, rfl, hF⟩
              have HR1 := Lib.hid hr1
              have H8 := Lib.hid (And.intro (H7.out.1.nix hF) (H7.out.2.trans (Ext.nix hF)))
              clear hF hr1
              go_wp2_with fail
              refine (findroot_c H8.out.1 H0.out.2.1.toWF0 j H0.out.2.1.ro HRT.out.2).mono ?_
              rintro e w9 ⟨r2, hr2, rfl, hF⟩
              have HR2 := Lib.hid hr2
              have H9 := Lib.hid (And.intro (H8.out.1.nix hF) (H8.out.2.trans (Ext.nix hF)))
              clear hF hr2
              go_upto_if 119 with fail
              go_cut [] (fun wx => ∃ T L', JoinOK S i j T ∧ Rep wx p T L' ∧ Ext w wx L L')
              case first =>
                by_cases hrr : r1 = r2
                · have hb2 := neq_false hrr
                  have HRR := Lib.hid hrr
                  clear hrr
                  go_wp2
                  go_meet
                  case rel => exact ⟨S, L, ⟨⟨r1, r2, HR1.out.1, HR1.out.2, HR2.out.1, HR2.out.2, (if_pos HRR.out).symm⟩, H0.out.2.1, by omega, by omega, by omega, rfl⟩, H9.out⟩
                · have hb2 := neq_true hrr
                  have HRR := Lib.hid hrr
                  clear hrr
                  have HM := Lib.hid (mergeroot_wf H0.out.2.1 HR1.out.1 HR2.out.1 (by have := HS.out; omega))
                  go_wp2_with fail
                  refine (mergeroot_c H9.out.1 H0.out.2.1 r1 r2 HR1.out.1 HR2.out.1 HRR.out (by have := HS.out; omega) (by have := HS.out; omega)).mono ?_
                  rintro e w10 ⟨rfl, L10, hR, hE⟩
                  have H10 := Lib.hid (And.intro hR (H9.out.2.trans hE))
                  clear hR hE
                  go_wp2
                  go_meet
                  case rel => exact ⟨S.mergeroot r1 r2, L10, ⟨⟨r1, r2, HR1.out.1, HR1.out.2, HR2.out.1, HR2.out.2, (if_neg HRR.out).symm⟩, HM.out.1, by have := HM.out.2; omega, by have := HM.out.2; omega, by have := HM.out.2; omega, rfl⟩, H10.out⟩
              case rest =>
              obtain ⟨T, L9, hJ, hR, hE⟩ := hcut
              have HJ := Lib.hid hJ
              have H10 := Lib.hid (And.intro hR hE)
              clear hJ hR hE
              obtain ⟨m, hm⟩ : ∃ m, T.last = m := ⟨_, rfl⟩
              have hcl : wc.cell? ⟨p, 0, none⟩ = some (.int .u32 (m : Nat)) := by rw [cell_block H10.out.1.hp, ← hm]; rfl
              have hm1 : m + 1 < 2147483648 := by have := HJ.out.wf.sz; have := HJ.out.wf.la; omega
              have HM := Lib.hid (show m + 1 = T.nodes.length from hm ▸ HJ.out.wf.la)
              clear hm
              go_wp2_with fail
              rw [show ((m : Int) + 1) = ((m + 1 : Nat) : Int) by omega]
              refine (newBitset_c (m + 1) wc (by omega)).mono ?_
              rintro e w11 ⟨rfl, hB, hF, hlt⟩
              obtain ⟨k, hk⟩ : ∃ k, (m + 1 + 63) / 64 = k := ⟨_, rfl⟩
              rw [hk] at hB ⊢
              have HK := Lib.hid (show (T.nodes.length + 63) / 64 = k by rw [← hk, HM.out])
              have H11 := Lib.hid (And.intro (H10.out.1.nix hF) (And.intro (H10.out.2.trans (Ext.nix hF)) hB))
              have HG := Lib.hid (show ¬ L9.own wc.heap.size from fun ho => Nat.lt_irrefl _ (H10.out.1.lt _ ho))
              have HGW := Lib.hid (show w.heap.size ≤ wc.heap.size from H10.out.2.fr.size)
              clear hk hB hF hlt hcl
              generalize wc.heap.size = gg at *
              go_wp2_with fail
              refine (Set_c H11.out.2.2 j (by have := HK.out; have := HI.out.2.2.2; have := HJ.out.le; omega) (by have := HL.out; omega)).mono ?_
              rintro e w12 ⟨rfl, hB, hF⟩
              have hR12 : Rep w12 p T L9 := H11.out.1.kept hF fun g hg e => HG.out (e ▸ hg)
              have hE12 : Ext w w12 L L9 := ⟨H11.out.2.1.fr.trans hF fun a e => .inr (e ▸ HGW.out), H11.out.2.1.own⟩
              have H12 := Lib.hid (And.intro hR12 (And.intro hE12 hB))
              clear hR12 hE12 hB hF
              have hal := aliasnodes_c (T := setB (fun _ => false) j) H12.out.1 HJ.out.wf (H0.out.2.2.1.ext H12.out.2.1) (by rw [HJ.out.vl]; exact HX.out) (g := gg) (c := k) (by rw [HK.out]; exact H12.out.2.2) HG.out
                (by rw [HJ.out.vl, HI.out.1]; simp [setB]; exact HIJ.out) (by have := HJ.out.ln; have := H0.out.2.2.2.2.2.sz; omega) (by have := HJ.out.ln; have := HJ.out.lg; have := H0.out.2.2.2.2.2.lg; omega) (by rw [HJ.out.vl]; exact H0.out.2.2.2.2.2.id) HK.out
              rw [HJ.out.vl, HI.out.1] at hal
              have HAL := Lib.hid hal
              clear hal
              go_wp2_with fail
              refine HAL.out.mono ?_
              rintro e w13 ⟨rfl, ids, L13, k1, k2, k3, k4⟩
              have H13 := Lib.hid (And.intro k1 (And.intro k2 (And.intro k3 (H12.out.2.1.trans k4))))
              clear k1 k2 k3 k4
              go_wp2
              go_ret
              exact ⟨_, true, HFIN.out _ _ (.inr (.inr (.inr ⟨HNE.out, HB1.out, HB3.out, rfl, T, HJ.out.jn, ids, H13.out.1, H13.out.2.1, rfl⟩))), rfl, L13, H13.out.2.2⟩
            · have hcp := collapsepath_c H7.out.1 H0.out.2.1 H0.out.2.2.2.2.2 (H0.out.2.2.2.1.ext H7.out.2) (H0.out.2.2.1.ext H7.out.2) HY.out
              rw [HI.out.1, HI.out.2.1] at hcp
              obtain ⟨b4, hb4⟩ : ∃ b, reachB S.nd j i true = b := ⟨_, rfl⟩
              rw [hb4] at hcp
              have HB4 := Lib.hid hb4
              clear hb4
              go_wp2_with fail
              refine hcp.mono ?_
              clear hcp
              cases b4
              · rintro e w8 ⟨rfl, ids, L8, k1, k2, hR, hE⟩
                have H8 := Lib.hid (And.intro hR (H7.out.2.trans hE))
                have HK := Lib.hid (And.intro k1 k2)
                clear hR hE k1 k2
                go_wp2
                go_ret
                exact ⟨_, true, HFIN.out _ _ (.inr (.inr (.inl ⟨HNE.out, HB1.out, HB3.out, .inr ⟨HB4.out, rfl, ids, HK.out.1, HK.out.2, rfl⟩⟩))), rfl, L8, H8.out⟩
              · rintro e w8 ⟨rfl, hF⟩
                have H8 := Lib.hid (And.intro (H7.out.1.nix hF) (H7.out.2.trans (Ext.nix hF)))
                clear hF
                go_wp2
                go_ret
                exact ⟨S, false, HFIN.out _ _ (.inr (.inr (.inl ⟨HNE.out, HB1.out, HB3.out, .inl ⟨HB4.out, rfl, rfl⟩⟩))), rfl, L, H8.out⟩
          · have hcp := collapsepath_c H5.out.1 H0.out.2.1 H0.out.2.2.2.2.2 (H0.out.2.2.1.ext H5.out.2) (H0.out.2.2.2.1.ext H5.out.2) HX.out
            rw [HI.out.1, HI.out.2.1] at hcp
            obtain ⟨b4, hb4⟩ : ∃ b, reachB S.nd i j true = b := ⟨_, rfl⟩
            rw [hb4] at hcp
            have HB4 := Lib.hid hb4
            clear hb4
            go_wp2_with fail
            refine hcp.mono ?_
            clear hcp
            cases b4
            · rintro e w8 ⟨rfl, ids, L8, k1, k2, hR, hE⟩
              have H8 := Lib.hid (And.intro hR (H5.out.2.trans hE))
              have HK := Lib.hid (And.intro k1 k2)
              clear hR hE k1 k2
              go_wp2
              go_ret
              exact ⟨_, true, HFIN.out _ _ (.inr (.inl ⟨HNE.out, HB1.out, .inr ⟨HB4.out, rfl, ids, HK.out.1, HK.out.2, rfl⟩⟩)), rfl, L8, H8.out⟩
            · rintro e w8 ⟨rfl, hF⟩
              have H8 := Lib.hid (And.intro (H5.out.1.nix hF) (H5.out.2.trans (Ext.nix hF)))
              clear hF
              go_wp2
              go_ret
              exact ⟨S, false, HFIN.out _ _ (.inr (.inl ⟨HNE.out, HB1.out, .inl ⟨HB4.out, rfl, rfl⟩⟩)), rfl, L, H8.out⟩
        · go_wp2
          go_ret
          exact ⟨S, false, HFIN.out _ _ (.inl ⟨HNE.out, rfl, rfl⟩), rfl, L, H4.out⟩
end Go.Proofs.Ytapnmgkpljlgmaa

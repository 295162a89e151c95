/- SetNonEqual. -/
import Derived.Test.YtapnmgkpljlgmaaG10
set_option linter.unusedVariables false
set_option linter.unusedSimpArgs false
namespace Go.Proofs.Ytapnmgkpljlgmaa
open Go.RowKit

noncomputable def PS.strictify (S : PS) (i j : Nat) : PS := if (reachB S.nd i j false && !reachB S.nd i j true) = true then S.addchild i j true else S
noncomputable def PS.setNE (S : PS) (x y : Nat) : PS × Bool :=
  if S.vl x = 0 ∨ S.vl y = 0 then (S.setnoneq x y, true)
  else if S.ne (S.vl x) (S.vl y) = true then (S, true)
  else if S.vl x = S.vl y then (S, false)
  else (((S.setnoneq x y).strictify (S.vl x) (S.vl y)).strictify (S.vl y) (S.vl x), true)

theorem strictify_wf {S : PS} (h : WF1 S) {i j : Nat} (hi : i < S.nodes.length) (hj : j < S.nodes.length) (hs : S.nodes.length + 1 < 2147483648) :
    WF1 (S.strictify i j) ∧ S.nodes.length ≤ (S.strictify i j).nodes.length ∧ (S.strictify i j).nodes.length ≤ S.nodes.length + 1 ∧ (S.strictify i j).lg.length ≤ S.lg.length + 2 := by
  unfold PS.strictify
  obtain ⟨_, f2, f3, f4, _⟩ := addchild_facts h.toWF0 i j true hi hj hs
  split
  · exact ⟨h.addchild i j true hi hj hs, f3, f2, f4⟩
  · exact ⟨h, Nat.le_refl _, by omega, by omega⟩

set_option maxRecDepth 3000 in
set_option maxHeartbeats 1000000 in
theorem SetNonEqual_c {w : World} {p : Nat} {S : PS} {L : Lay} (h : Rep w p S L) (wf : WF1 S) (room : Room S) {a1 a2 x y : Nat} (h1 : IsV w L a1 x) (h2 : IsV w L a2 y) (hxy : x ≠ y) :
    Calls Try.prog 88 #[.pointer (some ⟨p, 0, none⟩), .pointer (some ⟨a1, 0, none⟩), .pointer (some ⟨a2, 0, none⟩)] w (Post p w L (.bool (S.setNE x y).2) (S.setNE x y).1) := by
  have hc1 := h1.cell
  have hc2 := h2.cell
  have hid := eqq_false hxy
  have H0 := Lib.hid (And.intro h (And.intro wf (And.intro h1 (And.intro h2 (And.intro hxy room)))))
  have HS := Lib.hid (show S.nodes.length + 10 < 2147483648 ∧ S.lg.length + 20 < Lim ∧ S.last + 10 < 2147483647 by
    have := room.sz; have := room.lg; have := wf.la; omega)
  clear h wf h1 h2 hxy room
  go_enter Try.func88, Try.ntmps88
  go_wp2
  go_quiet (fail)
  have F1 := Lib.hid (Fr.drewN w nq Nix)
  generalize w.drewN nq = w1 at *
  clear hc1 hc2 hid
  go_wp2_with fail
  refine (lookup_c (H0.out.1.nix F1.out) (H0.out.2.2.1.nix F1.out)).mono ?_
  rintro e w2 ⟨rfl, hF⟩
  have F2 := Lib.hid (F1.out.trans hF fun _ e => .inl e)
  clear hF
  go_wp2_with fail
  refine (lookup_c (H0.out.1.nix F2.out) (H0.out.2.2.2.1.nix F2.out)).mono ?_
  rintro e w3 ⟨rfl, hF⟩
  have F3 := Lib.hid (F2.out.trans hF fun _ e => .inl e)
  clear hF F1 F2
  obtain ⟨f1, hf1⟩ : ∃ b, (S.vl x != 0) = b := ⟨_, rfl⟩
  obtain ⟨f2, hf2⟩ : ∃ b, (S.vl y != 0) = b := ⟨_, rfl⟩
  rw [hf1, hf2]
  have HF := Lib.hid (And.intro hf1 hf2)
  clear hf1 hf2
  obtain ⟨i, hi⟩ : ∃ i, S.vl x = i := ⟨_, rfl⟩
  obtain ⟨j, hj⟩ : ∃ j, S.vl y = j := ⟨_, rfl⟩
  rw [hi, hj]
  have HI := Lib.hid (And.intro hi (And.intro hj (show i < S.nodes.length ∧ j < S.nodes.length from ⟨hi ▸ H0.out.2.1.va x, hj ▸ H0.out.2.1.va y⟩)))
  clear hi hj
  have hsn : (S.vl x = 0 ∨ S.vl y = 0) → Calls Try.prog 104 #[.pointer (some ⟨p, 0, none⟩), .pointer (some ⟨a1, 0, none⟩), .pointer (some ⟨a2, 0, none⟩)] w3 (Post p w L (.tuple #[]) (S.setnoneq x y)) := fun hz =>
    (setnoneq_c (H0.out.1.nix F3.out) H0.out.2.1 (H0.out.2.2.1.nix F3.out) (H0.out.2.2.2.1.nix F3.out) H0.out.2.2.2.2.1 (by have := HS.out; omega) HS.out.2.2 (ensure_ne H0.out.2.1 H0.out.2.2.2.2.1 (by intro e; rcases hz with hz | hz; exact hz; rw [e]; exact hz))).mono
      fun _ _ ⟨e, L', r, x⟩ => ⟨e, L', r, (Ext.nix F3.out).trans x⟩
  have HSN := Lib.hid hsn
  clear hsn
  cases f1
  · go_wp2_with fail
    refine (HSN.out (.inl (by simpa using HF.out.1))).mono ?_
    rintro e w4 ⟨rfl, hR⟩
    have HR := Lib.hid hR
    clear hR
    go_wp2
    go_ret
    rw [PS.setNE, if_pos (.inl (by simpa using HF.out.1))]
    exact ⟨rfl, HR.out⟩
  · cases f2
    · go_wp2_with fail
      refine (HSN.out (.inr (by simpa using HF.out.2))).mono ?_
      rintro e w4 ⟨rfl, hR⟩
      have HR := Lib.hid hR
      clear hR
      go_wp2
      go_ret
      rw [PS.setNE, if_pos (.inr (by simpa using HF.out.2))]
      exact ⟨rfl, HR.out⟩
    · have HZ := Lib.hid (show ¬ (S.vl x = 0 ∨ S.vl y = 0) by have := HF.out; simp at this; omega)
      obtain ⟨n, hn⟩ : ∃ b, S.ne i j = b := ⟨_, rfl⟩
      have hno := isnoneq_c (H0.out.1.nix F3.out) i j (by have := HI.out; have := HS.out; omega) (by have := HI.out; have := HS.out; omega)
      rw [hn] at hno
      have HN := Lib.hid hn
      clear hn HSN
      go_wp2_with fail
      refine hno.mono ?_
      clear hno
      rintro e w4 ⟨rfl, hF⟩
      have F4 := Lib.hid (F3.out.trans hF fun _ e => .inl e)
      clear hF
      cases n
      · obtain ⟨q, hq⟩ : ∃ b, S.qEq x y = b := ⟨_, rfl⟩
        have heq := Equal_c (H0.out.1.nix F4.out) H0.out.2.1 (H0.out.2.2.1.nix F4.out) (H0.out.2.2.2.1.nix F4.out) H0.out.2.2.2.2.1
        rw [hq] at heq
        have HQ := Lib.hid (show (decide (i = j)) = q by
          rw [← hq, PS.qEq, both_t (fun e => HZ.out (.inl e)) (fun e => HZ.out (.inr e)), HI.out.1, HI.out.2.1]
          by_cases e : i = j <;> simp [e])
        clear hq
        go_wp2_with fail
        refine heq.mono ?_
        clear heq
        rintro e w5 ⟨rfl, hF⟩
        have F5 := Lib.hid (F4.out.trans hF fun _ e => .inl e)
        clear hF
        cases q
        · have HIJ := Lib.hid (show i ≠ j by simpa using HQ.out)
          go_wp2_with fail
          refine (setnoneq_c (H0.out.1.nix F5.out) H0.out.2.1 (H0.out.2.2.1.nix F5.out) (H0.out.2.2.2.1.nix F5.out) H0.out.2.2.2.2.1 (by have := HS.out; omega) HS.out.2.2 (ensure_ne H0.out.2.1 H0.out.2.2.2.2.1 (fun e => absurd ((HI.out.1.symm.trans e).trans HI.out.2.1) HIJ.out))).mono ?_
          rintro e w6 ⟨rfl, L6, hR, hE⟩
          have H6 := Lib.hid (And.intro hR ((Ext.nix F5.out).trans hE))
          have HK := Lib.hid (show (S.setnoneq x y).nodes.length = S.nodes.length ∧ (S.setnoneq x y).lg.length ≤ S.lg.length + 1 ∧ (S.setnoneq x y).last = S.last by
            have hm := mark2_facts S (S.vl x) (S.vl y)
            rw [setnoneq_known (fun e => HZ.out (.inl e)) (fun e => HZ.out (.inr e)), hm.1]; exact ⟨rfl, hm.2.2.2.2, hm.2.2.2.1⟩)
          have HW := Lib.hid (setnoneq_wf H0.out.2.1 x y HS.out.1)
          clear hR hE
          obtain ⟨T, hT⟩ : ∃ T, S.setnoneq x y = T := ⟨_, rfl⟩
          rw [hT] at H6 HK HW
          have HT := Lib.hid hT
          have HL := Lib.hid (show i < T.nodes.length ∧ j < T.nodes.length ∧ i < 2147483648 ∧ j < 2147483648 ∧ T.nodes.length + 8 < 2147483648 ∧ T.lg.length + 15 < Lim by have := HK.out; have := HI.out; have := HS.out; omega)
          clear hT
          go_upto_region 13 with fail
          go_cut [65] (fun c wx => c = .bool (reachB (T).nd i j false && !reachB (T).nd i j true) ∧ Rep wx p (T) L6 ∧ Ext w wx L L6)
          case first =>
            obtain ⟨b1, hb1⟩ : ∃ b, reachB (T).nd i j false = b := ⟨_, rfl⟩
            have hre := reaches_c H6.out.1 (HW.out).toWF0 i j false (HL.out.1)
            rw [hb1] at hre
            have HB := Lib.hid hb1
            clear hb1
            go_wp2_with fail
            refine hre.mono ?_
            clear hre
            rintro e w5 ⟨rfl, hF⟩
            have HF5 := Lib.hid hF
            clear hF
            cases b1
            · go_wp2_with fail
              go_meet
              case rel => exact ⟨by rw [HB.out]; rfl, H6.out.1.nix HF5.out, H6.out.2.trans (Ext.nix HF5.out)⟩
            · go_wp2_with fail
              refine (reaches_c (H6.out.1.nix HF5.out) (HW.out).toWF0 i j true (HL.out.1)).mono ?_
              rintro e w6 ⟨rfl, hF⟩
              have HF6 := Lib.hid (HF5.out.trans hF fun _ e => e.elim)
              clear hF
              go_wp2_with fail
              go_meet
              case rel => exact ⟨by rw [HB.out]; rfl, H6.out.1.nix HF6.out, H6.out.2.trans (Ext.nix HF6.out)⟩
          case rest =>
          obtain ⟨rfl, hR5, hE5⟩ := hcut
          have H7A := Lib.hid (And.intro hR5 hE5)
          clear hR5 hE5
          obtain ⟨gb, hgb⟩ : ∃ b, (reachB (T).nd i j false && !reachB (T).nd i j true) = b := ⟨_, rfl⟩
          rw [hgb]
          have HGB := Lib.hid hgb
          clear hgb
          go_upto_if 65 with fail
          go_cut [] (fun wx => ∃ L5, Rep wx p ((T).strictify i j) L5 ∧ Ext w wx L L5)
          case first =>
            cases gb
            · go_wp2
              go_meet
              case rel => exact ⟨_, by rw [PS.strictify, if_neg (by rw [HGB.out]; decide)]; exact H7A.out.1, H7A.out.2⟩
            · go_wp2_with fail
              refine (addchild_c H7A.out.1 (HW.out).toWF0 i j true (HL.out.1) (HL.out.2.2.2.1) (by have := HL.out; omega) (by have := HW.out.la; have := HL.out; omega)).mono ?_
              rintro e w7 ⟨rfl, L7, hR, hE⟩
              have H7 := Lib.hid (And.intro hR (H7A.out.2.trans hE))
              clear hR hE
              go_wp2
              go_meet
              case rel => exact ⟨L7, by rw [PS.strictify, if_pos HGB.out]; exact H7.out.1, H7.out.2⟩
          case rest =>
          obtain ⟨H7L, hR5, hE5⟩ := hcut
          have H7 := Lib.hid (And.intro hR5 hE5)
          clear hR5 hE5 HGB
          have HW2 := Lib.hid (strictify_wf HW.out HL.out.1 HL.out.2.1 (by have := HL.out; omega))
          obtain ⟨U, hU⟩ : ∃ U, T.strictify i j = U := ⟨_, rfl⟩
          rw [hU] at H7 HW2
          have HU := Lib.hid hU
          have HL2 := Lib.hid (show j < U.nodes.length ∧ i < U.nodes.length ∧ U.nodes.length + 5 < 2147483648 ∧ U.lg.length + 10 < Lim by have := HW2.out.2; have := HL.out; omega)
          clear hU
          go_upto_region 15 with fail
          go_cut [80] (fun c wx => c = .bool (reachB (U).nd j i false && !reachB (U).nd j i true) ∧ Rep wx p (U) H7L ∧ Ext w wx L H7L)
          case first =>
            obtain ⟨b1, hb1⟩ : ∃ b, reachB (U).nd j i false = b := ⟨_, rfl⟩
            have hre := reaches_c H7.out.1 (HW2.out.1).toWF0 j i false (HL2.out.1)
            rw [hb1] at hre
            have HB := Lib.hid hb1
            clear hb1
            go_wp2_with fail
            refine hre.mono ?_
            clear hre
            rintro e w5 ⟨rfl, hF⟩
            have HF5 := Lib.hid hF
            clear hF
            cases b1
            · go_wp2_with fail
              go_meet
              case rel => exact ⟨by rw [HB.out]; rfl, H7.out.1.nix HF5.out, H7.out.2.trans (Ext.nix HF5.out)⟩
            · go_wp2_with fail
              refine (reaches_c (H7.out.1.nix HF5.out) (HW2.out.1).toWF0 j i true (HL2.out.1)).mono ?_
              rintro e w6 ⟨rfl, hF⟩
              have HF6 := Lib.hid (HF5.out.trans hF fun _ e => e.elim)
              clear hF
              go_wp2_with fail
              go_meet
              case rel => exact ⟨by rw [HB.out]; rfl, H7.out.1.nix HF6.out, H7.out.2.trans (Ext.nix HF6.out)⟩
          case rest =>
          obtain ⟨rfl, hR5, hE5⟩ := hcut
          have H8A := Lib.hid (And.intro hR5 hE5)
          clear hR5 hE5
          obtain ⟨gb, hgb⟩ : ∃ b, (reachB (U).nd j i false && !reachB (U).nd j i true) = b := ⟨_, rfl⟩
          rw [hgb]
          have HGB := Lib.hid hgb
          clear hgb
          go_upto_if 80 with fail
          go_cut [] (fun wx => ∃ L5, Rep wx p ((U).strictify j i) L5 ∧ Ext w wx L L5)
          case first =>
            cases gb
            · go_wp2
              go_meet
              case rel => exact ⟨_, by rw [PS.strictify, if_neg (by rw [HGB.out]; decide)]; exact H8A.out.1, H8A.out.2⟩
            · go_wp2_with fail
              refine (addchild_c H8A.out.1 (HW2.out.1).toWF0 j i true (HL2.out.1) (HL.out.2.2.1) (by have := HL2.out; omega) (by have := HW2.out.1.la; have := HL2.out; omega)).mono ?_
              rintro e w7 ⟨rfl, L7, hR, hE⟩
              have H7 := Lib.hid (And.intro hR (H8A.out.2.trans hE))
              clear hR hE
              go_wp2
              go_meet
              case rel => exact ⟨L7, by rw [PS.strictify, if_pos HGB.out]; exact H7.out.1, H7.out.2⟩
          case rest =>
          obtain ⟨H8L, hR5, hE5⟩ := hcut
          have H8 := Lib.hid (And.intro hR5 hE5)
          clear hR5 hE5 HGB
          go_wp2
          go_ret
          rw [PS.setNE, if_neg HZ.out, if_neg (by rw [HI.out.1, HI.out.2.1, HN.out]; decide), if_neg (by rw [HI.out.1, HI.out.2.1]; exact HIJ.out), HT.out, HI.out.1, HI.out.2.1, HU.out]
          exact ⟨rfl, H8L, H8.out⟩
        · go_wp2
          go_ret
          rw [PS.setNE, if_neg HZ.out, if_neg (by rw [HI.out.1, HI.out.2.1, HN.out]; decide), if_pos (by rw [HI.out.1, HI.out.2.1]; simpa using HQ.out)]
          exact ⟨rfl, L, H0.out.1.nix F5.out, Ext.nix F5.out⟩
      · go_wp2
        go_ret
        rw [PS.setNE, if_neg HZ.out, if_pos (by rw [HI.out.1, HI.out.2.1]; exact HN.out)]
        exact ⟨rfl, L, H0.out.1.nix F4.out, Ext.nix F4.out⟩
end Go.Proofs.Ytapnmgkpljlgmaa

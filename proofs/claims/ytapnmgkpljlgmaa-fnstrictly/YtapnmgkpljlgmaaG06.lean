/- setnoneq: the walk. aliasnewnode, mergeroot. What the loop of aliasnodes over the nodes keeps: AInv, and the contracts of what it calls, in its words. -/
import Derived.Test.YtapnmgkpljlgmaaG05
import Derived.Deep.DeepCutAuto
set_option linter.unusedVariables false
set_option linter.unusedSimpArgs false
namespace Go.Proofs.Ytapnmgkpljlgmaa
open Go.RowKit

/-- What else the numbers keep to. -/
structure WF1 (S : PS) : Prop extends WF0 S where
  ro : ∀ r, S.rt r = true → r < S.nodes.length
  va : ∀ id, S.vl id < S.nodes.length
  qa : ∀ i j, S.nq i j = true → i < S.nodes.length
theorem WF1.rt_new {S : PS} (h : WF1 S) : S.rt (S.last + 1) = false := by
  cases e : S.rt (S.last + 1)
  · rfl
  · have := h.ro _ e; have := h.la; omega
theorem lim4 {n m : Nat} (h : n ≤ m) (hm : m < Lim) : (n + 1) * 4 ≤ 140737488355328 ∧ n + 1 ≤ 1000000000000 := by unfold Lim at hm; omega
theorem nd_nil {S : PS} (wf : WF0 S) {i : Nat} (hi : S.nodes.length ≤ i) : S.nd i = (0, 0) := by
  unfold PS.nd; rw [List.getD_eq_getElem?_getD, List.getElem?_eq_none hi]; rfl
theorem nd_app (l : List (Nat × Nat)) (i : Nat) : (l ++ [(0, 0)]).getD i (0, 0) = l.getD i (0, 0) := by
  simp only [List.getD_eq_getElem?_getD]
  by_cases h : i < l.length
  · rw [List.getElem?_append_left h]
  · rw [List.getElem?_append_right (by omega), List.getElem?_eq_none (l := l) (by omega)]
    rcases Nat.eq_zero_or_pos (i - l.length) with h0 | h0
    · simp [h0]
    · rw [List.getElem?_eq_none (by simp; omega)]
theorem newRoot_wf {S : PS} (h : WF1 S) (id : Nat) (hs : S.last < 2147483646) : WF1 (S.newRoot id) := by
  have hnd : ∀ i, (S.newRoot id).nd i = S.nd i := fun i => nd_app S.nodes i
  have hl : (S.newRoot id).nodes.length = S.nodes.length + 1 := by simp [PS.newRoot, PS.newV, PS.push]
  have hla := h.la
  refine ⟨⟨?_, ?_, ?_⟩, ?_, ?_, ?_⟩
  · rw [hl]; simp [PS.newRoot, PS.newV, PS.push]; omega
  · rw [hl]; omega
  · intro x y s e
    unfold Ed at e
    rw [hnd] at e
    have := h.ir x y s e
    omega
  · intro r hr
    rw [hl]
    by_cases hrl : r = S.last + 1
    · omega
    · have : S.rt r = true := by simpa [PS.newRoot, PS.newV, PS.push, upd, hrl] using hr
      have := h.ro r this; omega
  · intro i
    rw [hl]
    by_cases hi : i = id
    · subst hi; simp [PS.newRoot, PS.newV, PS.push, upd]; omega
    · have : (S.newRoot id).vl i = S.vl i := by simp [PS.newRoot, PS.newV, PS.push, upd, hi]
      rw [this]; have := h.va i; omega
  · intro i j hij
    rw [hl]
    have := h.qa i j hij
    omega

theorem ensure_cases (S : PS) (id : Nat) : (S.vl id = 0 ∧ S.ensure id = S.newRoot id) ∨ (S.vl id ≠ 0 ∧ S.ensure id = S) := by
  unfold PS.ensure
  by_cases h : S.vl id = 0
  · exact .inl ⟨h, if_pos h⟩
  · exact .inr ⟨h, if_neg h⟩
theorem ensure_wf {S : PS} (h : WF1 S) (id : Nat) (hs : S.last < 2147483646) : WF1 (S.ensure id) ∧ (S.ensure id).last ≤ S.last + 1 ∧ (S.ensure id).lg.length ≤ S.lg.length + 2 := by
  rcases ensure_cases S id with ⟨_, e⟩ | ⟨_, e⟩
  · rw [e]; exact ⟨newRoot_wf h id hs, by simp [PS.newRoot, PS.newV, PS.push], by simp [PS.newRoot, PS.newV, PS.push]⟩
  · rw [e]; exact ⟨h, by omega, by omega⟩

set_option maxRecDepth 5000 in
set_option maxHeartbeats 1000000 in
theorem setnoneq_c {w : World} {p : Nat} {S : PS} {L : Lay} (h : Rep w p S L) (wf : WF1 S) {a1 a2 x y : Nat} (h1 : IsV w L a1 x) (h2 : IsV w L a2 y) (hxy : x ≠ y)
    (hl : S.lg.length + 10 < Lim) (hs : S.last + 10 < 2147483647) (hne : ((S.ensure x).ensure y).vl x ≠ ((S.ensure x).ensure y).vl y) :
    Calls Try.prog 104 #[.pointer (some ⟨p, 0, none⟩), .pointer (some ⟨a1, 0, none⟩), .pointer (some ⟨a2, 0, none⟩)] w (Post p w L (.tuple #[]) (S.setnoneq x y)) := by
  have k1 := lookup_c h h1
  have H := Lib.hid (And.intro h (And.intro wf (And.intro h1 (And.intro h2 (And.intro hl (And.intro hs hne))))))
  have K1 := Lib.hid k1
  clear k1 h wf h1 h2 hl hs hne
  obtain ⟨f1, hf1⟩ : ∃ f, (S.vl x != 0) = f := ⟨_, rfl⟩
  obtain ⟨f2, hf2⟩ : ∃ f, (S.vl y != 0) = f := ⟨_, rfl⟩
  rw [hf1] at K1
  have HF := Lib.hid (And.intro hf1 hf2)
  clear hf1 hf2
  go_enter Try.func104, Try.ntmps104
  go_wp2_with fail
  refine K1.out.mono ?_
  rintro e w1 ⟨rfl, hF1⟩
  have H1 := Lib.hid (And.intro (H.out.1.nix hF1) (Ext.nix (L := L) hF1))
  clear hF1
  go_wp2_with fail
  have k2 := lookup_c H1.out.1 (H.out.2.2.2.1.ext H1.out.2)
  rw [HF.out.2] at k2
  refine k2.mono ?_
  clear k2
  rintro e w2 ⟨rfl, hF2⟩
  have H2 := Lib.hid (And.intro (H1.out.1.nix hF2) (H1.out.2.trans (Ext.nix (L := L) hF2)))
  clear hF2
  go_upto_if 24 with fail
  go_cut [6] (fun s wx => ∃ L1, s = .int .u32 ((S.ensure x).vl x : Nat) ∧ Rep wx p (S.ensure x) L1 ∧ Ext w wx L L1)
  case first =>
    cases f1
    · have h0 : S.vl x = 0 := by simpa using HF.out.1
      have H0 := Lib.hid h0
      clear h0
      go_wp2_with fail
      refine (newnodeV_c H2.out.1 (H.out.2.2.1.ext H2.out.2) (H0.out) (by have := H.out.2.2.2.2.1; omega) (H.out.2.1).lim (by have := H.out.2.2.2.2.2.1; omega)).mono ?_
      rintro e a1 ⟨rfl, M1, hR1, hE1⟩
      have G1 := Lib.hid (And.intro hR1 (H2.out.2.trans hE1))
      clear hR1 hE1
      have hc4_1 : a1.cell? ⟨p, 4, none⟩ = some M1.rv := by rw [cell_block G1.out.1.hp]; rfl
      have hrr1 := G1.out.1.hr
      have hlr1 := lim4 (G1.out.1.rl_len (n := (S).nodes.length) (fun r hr => (H.out.2.1).ro r hr)) (H.out.2.1).lim
      have HLR1 := Lib.hid hlr1
      clear hlr1
      go_wp2_with (at_builtin; refine wpList_app _ rfl _ _ 105 rfl 108 _ 1 4 Try.underlying105 info_u32 rfl (by decide) _ _ _ rfl (hrr1.alloc _) ⟨a1.heap.size, 0, none⟩ 1 1 (u32Cell ((S).last + 1)) rfl rfl (by decide) (cells_new _ _ _) (u32_one _) HLR1.out.1 HLR1.out.2 ?_; intro g1 cap1 x1 hown1 hgrow1 hnew1; obtain ⟨hcc1, hff1, N1, hQ1, hX1⟩ := G1.out.1.roots_app (Fr.alloc _ _ _) ((H.out.2.1).rt_new) hown1 hgrow1 hnew1; have J1 := Lib.hid (And.intro hQ1 (G1.out.2.trans hX1)); clear hown1 hgrow1 hnew1 hQ1 hX1 hc4_1 hrr1)
      refine (upush_c J1.out.1 7 ((S).last + 1) 0 (by have := H.out.2.2.2.2.1; simp [PS.newV]; omega)).mono ?_
      rintro e b1 ⟨rfl, O1, hR1, hE1⟩
      have P1 := Lib.hid (And.intro hR1 (J1.out.2.trans hE1))
      clear hR1 hE1 hcc1 hff1
      go_wp2
      go_meet
      case rel =>
        have e := (ensure_cases S x).resolve_right (fun h => h.1 H0.out)
        refine ⟨O1, ?_, by rw [e.2]; exact P1.out.1, P1.out.2⟩
        rw [e.2]; simp [PS.newRoot, PS.newV, PS.push, upd]
    · have h0 : S.vl x ≠ 0 := by simpa using HF.out.1
      have H0 := Lib.hid h0
      clear h0
      go_wp2
      go_meet
      case rel =>
        have e := (ensure_cases S x).resolve_left (fun h => H0.out h.1)
        exact ⟨L, by rw [e.2], by rw [e.2]; exact H2.out.1, H2.out.2⟩
  case rest =>
    obtain ⟨L1, rfl, hR, hE⟩ := hcut
    have hw := ensure_wf H.out.2.1 x (by have := H.out.2.2.2.2.2.1; omega)
    have hvy : (S.ensure x).vl y = S.vl y := by
      rcases ensure_cases S x with ⟨_, e⟩ | ⟨_, e⟩
      · rw [e]; simp [PS.newRoot, PS.newV, PS.push, upd, Ne.symm hxy]
      · rw [e]
    have H3 := Lib.hid (And.intro hR hE)
    have W3 := Lib.hid (And.intro hw hvy)
    clear hR hE hw hvy
    go_upto_if 42 with fail
    go_cut [8] (fun s wx => ∃ L1, s = .int .u32 (((S.ensure x).ensure y).vl y : Nat) ∧ Rep wx p ((S.ensure x).ensure y) L1 ∧ Ext w wx L L1)
    case first =>
      cases f2
      · have h0 : S.vl y = 0 := by simpa using HF.out.2
        have H0 := Lib.hid h0
        clear h0
        go_wp2_with fail
        refine (newnodeV_c H3.out.1 (H.out.2.2.2.1.ext H3.out.2) (W3.out.2.trans H0.out) (by have := And.intro H.out.2.2.2.2.1 W3.out.1; omega) (W3.out.1.1).lim (by have := And.intro H.out.2.2.2.2.2.1 W3.out.1; omega)).mono ?_
        rintro e a2 ⟨rfl, M2, hR2, hE2⟩
        have G2 := Lib.hid (And.intro hR2 (H3.out.2.trans hE2))
        clear hR2 hE2
        have hc4_2 : a2.cell? ⟨p, 4, none⟩ = some M2.rv := by rw [cell_block G2.out.1.hp]; rfl
        have hrr2 := G2.out.1.hr
        have hlr2 := lim4 (G2.out.1.rl_len (n := ((S.ensure x)).nodes.length) (fun r hr => (W3.out.1.1).ro r hr)) (W3.out.1.1).lim
        have HLR2 := Lib.hid hlr2
        clear hlr2
        go_wp2_with (at_builtin; refine wpList_app _ rfl _ _ 105 rfl 108 _ 1 4 Try.underlying105 info_u32 rfl (by decide) _ _ _ rfl (hrr2.alloc _) ⟨a2.heap.size, 0, none⟩ 1 1 (u32Cell (((S.ensure x)).last + 1)) rfl rfl (by decide) (cells_new _ _ _) (u32_one _) HLR2.out.1 HLR2.out.2 ?_; intro g2 cap2 x2 hown2 hgrow2 hnew2; obtain ⟨hcc2, hff2, N2, hQ2, hX2⟩ := G2.out.1.roots_app (Fr.alloc _ _ _) ((W3.out.1.1).rt_new) hown2 hgrow2 hnew2; have J2 := Lib.hid (And.intro hQ2 (G2.out.2.trans hX2)); clear hown2 hgrow2 hnew2 hQ2 hX2 hc4_2 hrr2)
        refine (upush_c J2.out.1 7 (((S.ensure x)).last + 1) 0 (by have := And.intro H.out.2.2.2.2.1 W3.out.1; simp [PS.newV]; omega)).mono ?_
        rintro e b2 ⟨rfl, O2, hR2, hE2⟩
        have P2 := Lib.hid (And.intro hR2 (J2.out.2.trans hE2))
        clear hR2 hE2 hcc2 hff2
        go_wp2
        go_meet
        case rel =>
          have e := (ensure_cases (S.ensure x) y).resolve_right (fun h => h.1 (W3.out.2.trans H0.out))
          refine ⟨O2, ?_, by rw [e.2]; exact P2.out.1, P2.out.2⟩
          rw [e.2]; simp [PS.newRoot, PS.newV, PS.push, upd]
      · have h0 : S.vl y ≠ 0 := by simpa using HF.out.2
        have H0 := Lib.hid h0
        clear h0
        go_wp2
        go_meet
        case rel =>
          have e := (ensure_cases (S.ensure x) y).resolve_left (fun h => H0.out (W3.out.2 ▸ h.1))
          exact ⟨L1, by rw [e.2, W3.out.2], by rw [e.2]; exact H3.out.1, H3.out.2⟩
    case rest =>
      obtain ⟨L2, rfl, hR, hE⟩ := hcut
      have hvx : (S.ensure x).vl x = ((S.ensure x).ensure y).vl x := by
        rcases ensure_cases (S.ensure x) y with ⟨_, e⟩ | ⟨_, e⟩
        · rw [e]; simp [PS.newRoot, PS.newV, PS.push, upd, hxy]
        · rw [e]
      rw [hvx]
      have hne := H.out.2.2.2.2.2.2
      have hw4 := ensure_wf W3.out.1.1 y (by have := H.out.2.2.2.2.2.1; have := W3.out.1.2.1; omega)
      have hlg : ((S.ensure x).ensure y).lg.length + 4 < Lim := by have := H.out.2.2.2.2.1; have := W3.out.1.2.2; have := hw4.2.2; omega
      have hfin : S.setnoneq x y = ((S.ensure x).ensure y).mark2 (((S.ensure x).ensure y).vl x) (((S.ensure x).ensure y).vl y) := rfl
      clear hvx W3 H3 H2 H1 K1 HF
      generalize (S.ensure x).ensure y = T at *
      have hvi := hw4.1.va x
      have hvj := hw4.1.va y
      have hsz := hw4.1.sz
      generalize T.vl x = i at *
      generalize T.vl y = j at *
      have H4 := Lib.hid (And.intro hR (And.intro hE (And.intro hw4.1 hlg)))
      have FIN0 := Lib.hid hfin
      clear hfin
      have hb1 : ((i : Int) == (j : Int)) = false := by rw [beq_eq_false_iff_ne]; omega
      clear hR hE hw4 hlg H
      go_upto_if 65 with fail
      go_cut [6, 8] (fun s t wx => ∃ a b : Nat, s = .int .u32 (a : Nat) ∧ t = .int .u32 (b : Nat) ∧ b < a ∧ a < 2147483648 ∧ a < T.nodes.length ∧ T.mark2 i j = T.mark a b ∧ wx = wc)
      case first =>
        by_cases hij : i < j
        · have hd : decide ((i : Int) < (j : Int)) = true := by rw [decide_eq_true_iff]; omega
          have HIJ := Lib.hid hij
          clear hij
          go_wp2
          go_meet
          case rel => exact ⟨j, i, rfl, rfl, HIJ.out, by omega, hvj, if_pos HIJ.out, rfl⟩
        · have hd : ¬ ((i : Int) < (j : Int)) := by omega
          have HIJ := Lib.hid hij
          clear hij
          go_wp2
          go_meet
          case rel => exact ⟨i, j, rfl, rfl, by have := HIJ.out; omega, by omega, hvi, if_neg HIJ.out, rfl⟩
      case rest =>
        obtain ⟨a, b, rfl, rfl, hba, ha31, hal, hmk, rfl⟩ := hcut
        have FIN := Lib.hid (FIN0.out.trans hmk)
        clear hmk hne hb1 hvi hvj hsz FIN0
        have hab : b / 64 < (a + 63) / 64 := by omega
        have hb32 : b < 4294967296 := by omega
        have hc5 : wc.cell? ⟨p, 5, none⟩ = some (.map (some L2.qb)) := by rw [cell_block H4.out.1.hp]; rfl
        have heq := fun W a n c n' c' => Lib.run_eql_slice_nil (P := Try.prog) W 127 140 a n c n' c' Try.underlying127
        rcases H4.out.1.hq.two a with ⟨hq0, hno, hlk⟩ | ⟨g, c, hown, hB, hat, hlk⟩
        · have Q0 := Lib.hid (And.intro hq0 (And.intro hno (And.intro hab (And.intro hba hal))))
          clear hq0 hno hab hba hal
          go_wp2_with (go_at_call 114; refine (newBitset_c a _ (by omega)).mono ?_; rintro e w5 ⟨rfl, hB5, hF5, hlt5⟩; obtain ⟨o, hrun, L3, hR3, hE3, hqe, hat3, hB6⟩ := H4.out.1.put_bits Q0.out.2.1 hB5 hF5 (Nat.le_refl _) Q0.out.1; have hc6 : w5.cell? ⟨p, 5, none⟩ = some (.map (some L2.qb)) := (by rw [cell_block (H4.out.1.nix hF5).hp]; rfl); have X3 := Lib.hid (And.intro hR3 (And.intro (H4.out.2.1.trans hE3) (And.intro hqe (And.intro hat3 hB6)))); clear hB5 hF5 hlt5 hR3 hE3 hqe hat3 hB6)
          clear hrun hc6 hlk hc5
          refine (Set_c X3.out.2.2.2.2 b Q0.out.2.2.1 hb32).mono ?_
          rintro e w7 ⟨rfl, hB7, hF7⟩
          obtain ⟨hR8, hE8⟩ := X3.out.1.set_bits (by rw [X3.out.2.2.1]; exact X3.out.2.2.2.1) hB7 hF7 (by intro j hj; have := Q0.out.2.2.2.1; simp [setB, Q0.out.1] at hj; omega)
          rw [upd_setQ] at hR8
          have X8 := Lib.hid (And.intro hR8 (X3.out.2.1.trans hE8))
          clear hR8 hE8 hB7 hF7
          go_wp2_with fail
          refine (upushneq_c X8.out.1 a b ha31 (by have := H4.out.2.2.2; show T.lg.length < Lim; omega)).mono ?_
          rintro e w9 ⟨rfl, L9, hR9, hE9⟩
          have X9 := Lib.hid (And.intro hR9 (X8.out.2.trans hE9))
          clear hR9 hE9
          go_wp2
          go_end0
          refine ⟨rfl, L9, ?_, X9.out.2⟩
          rw [FIN.out]
          unfold PS.mark
          rw [if_neg (by rw [Q0.out.1 b]; simp)]
          exact X9.out.1
        · obtain ⟨t, ht⟩ : ∃ t, T.nq a b = t := ⟨_, rfl⟩
          have hT := Test_c hB b hab hb32
          rw [ht] at hT
          have HT := Lib.hid hT
          have Q0 := Lib.hid (And.intro hB (And.intro hat (And.intro hab (And.intro hba (And.intro hal ht)))))
          clear hB hat hab hba hal ht hT
          cases t
          · go_wp2_with fail
            refine HT.out.mono ?_
            clear hlk hc5
            rintro e w6 ⟨rfl, rfl⟩
            go_wp2_with fail
            refine (Set_c Q0.out.1 b Q0.out.2.2.1 hb32).mono ?_
            rintro e w7 ⟨rfl, hB7, hF7⟩
            obtain ⟨hR8, hE8⟩ := H4.out.1.set_bits Q0.out.2.1 hB7 hF7 (by
              intro j hj
              obtain ⟨_, _, _, _, _, _, h5, _⟩ := H4.out.1.hq
              have := Q0.out.2.2.2.1
              simp only [setB, Bool.or_eq_true, decide_eq_true_eq] at hj
              rcases hj with hj | rfl
              · exact h5 a j hj
              · exact this)
            rw [upd_setQ] at hR8
            have X8 := Lib.hid (And.intro hR8 (H4.out.2.1.trans hE8))
            clear hR8 hE8 hB7 hF7
            go_wp2_with fail
            refine (upushneq_c X8.out.1 a b ha31 (by have := H4.out.2.2.2; show T.lg.length < Lim; omega)).mono ?_
            rintro e w9 ⟨rfl, L9, hR9, hE9⟩
            have X9 := Lib.hid (And.intro hR9 (X8.out.2.trans hE9))
            clear hR9 hE9
            go_wp2
            go_end0
            refine ⟨rfl, L9, ?_, X9.out.2⟩
            rw [FIN.out]
            unfold PS.mark
            rw [if_neg (by rw [Q0.out.2.2.2.2.2]; simp)]
            exact X9.out.1
          · go_wp2_with fail
            refine HT.out.mono ?_
            clear hlk hc5
            rintro e w6 ⟨rfl, rfl⟩
            go_wp2
            refine bodyPost_ret (results_none rfl _ _ _) rfl ?_
            refine ⟨rfl, L2, ?_, H4.out.2.1⟩
            rw [FIN.out]
            unfold PS.mark
            rw [if_pos Q0.out.2.2.2.2.2]
            exact H4.out.1
end Go.Proofs.Ytapnmgkpljlgmaa
namespace Go.Proofs.Ytapnmgkpljlgmaa
open Go.RowKit

/-- Value y, which has no node, gets that of value x. -/
def PS.aliasV (S : PS) (x y : Nat) : PS := { S with vl := upd S.vl y (S.vl x), lg := ⟨6, 0, y, 0⟩ :: S.lg }

set_option maxRecDepth 3000 in
set_option maxHeartbeats 400000 in
theorem aliasnewnode_c {w : World} {p : Nat} {S : PS} {L : Lay} (h : Rep w p S L) {a1 a2 x y : Nat} (h1 : IsV w L a1 x) (h2 : IsV w L a2 y) (hx : S.vl x ≠ 0) (hy : S.vl y = 0) (hl : S.lg.length < Lim) :
    Calls Try.prog 110 #[.pointer (some ⟨p, 0, none⟩), .pointer (some ⟨a1, 0, none⟩), .pointer (some ⟨a2, 0, none⟩)] w (Post p w L (.tuple #[]) (S.aliasV x y)) := by
  have hc : w.cell? ⟨p, 2, none⟩ = some (.map (some L.vb)) := by rw [cell_block h.hp]; rfl
  have hl1 := fun n => (run_lookup_v (W := w.drewN n) h.hv x).2
  have hl2 := fun n => (run_lookup_v (W := w.drewN n) h.hv y).2
  rw [hy] at hl2
  have hc1 := h1.cell
  have hc2 := h2.cell
  obtain ⟨o, ho, hv⟩ := h.hv.put y (S.vl x) hx
  have HV := Lib.hid (And.intro (h.val_put hv) (And.intro h2 hl))
  have hb1 := eq0_false hx
  clear h h1 h2 hl hv hy
  generalize hi : S.vl x = i at *
  have HI := Lib.hid (And.intro hi hx)
  clear hi hx
  go_enter Try.func110, Try.ntmps110
  go_wp2
  go_quiet (fail)
  go_wp2_with fail
  have ho3 := ho (nq + 1)
  change Sem.run _ _ (w.drewN nq).drew = _ at ho3
  go_region
  clear ho hl1 hl2 ho3 hc hc1 hc2
  have h3 := HV.out.1.1.drewN (nq + 1)
  have e3 := HV.out.1.2.trans (Ext.nix (Fr.drewN _ (nq + 1) _))
  generalize (putObj w L.vb o).drewN (nq + 1) = w3 at *
  have hc3 := (HV.out.2.1.ext e3).cell
  have H3 := Lib.hid h3
  have E3 := Lib.hid e3
  clear h3 e3
  go_wp2_with (go_at_call 133; refine (upushalias_c H3.out y 0 HV.out.2.2).mono ?_; rintro e w' ⟨rfl, L4, hR4, hE4⟩)
  go_end0
  refine ⟨rfl, L4, ?_, E3.out.trans hE4⟩
  unfold PS.aliasV
  rw [HI.out.1]
  exact hR4

/-- A new node above two roots. -/
def PS.mergeroot (S : PS) (r1 r2 : Nat) : PS :=
  PS.push { ((S.newX.setl (S.last + 1) (eg r1 false)).setr (S.last + 1) (eg r2 false)) with rt := upd (upd (upd S.rt r1 false) (S.last + 1) true) r2 false } ⟨9, S.last + 1, 0, 0⟩

set_option maxRecDepth 3000 in
set_option maxHeartbeats 400000 in
theorem mergeroot_c {w : World} {p : Nat} {S : PS} {L : Lay} (h : Rep w p S L) (wf : WF1 S) (r1 r2 : Nat) (h1 : S.rt r1 = true) (h2 : S.rt r2 = true) (hne : r1 ≠ r2) (hl : S.lg.length + 1 < Lim) (hs : S.last < 2147483646) :
    Calls Try.prog 113 #[.pointer (some ⟨p, 0, none⟩), .int .u32 (r1 : Nat), .int .u32 (r2 : Nat)] w (Post p w L (.int .u32 ((S.last : Int) + 1)) (S.mergeroot r1 r2)) := by
  have H0 := Lib.hid (And.intro h (Ext.refl w L))
  have W := Lib.hid (And.intro wf (And.intro h1 (And.intro h2 (And.intro hne (And.intro hl hs)))))
  have hb1 : r1 < 2147483648 := by have := wf.ro r1 h1; have := wf.sz; omega
  have hb2 : r2 < 2147483648 := by have := wf.ro r2 h2; have := wf.sz; omega
  have HB := Lib.hid (And.intro hb1 hb2)
  clear h wf h1 h2 hne hl hs hb1 hb2
  go_enter Try.func113, Try.ntmps113
  go_wp2_with fail
  refine (newnodeX_c H0.out.1 (by have := W.out.2.2.2.2.1; omega) W.out.1.lim (by have := W.out.2.2.2.2.2; omega)).mono ?_
  rintro e w1 ⟨rfl, L1, hR, hE⟩
  have H1 := Lib.hid (And.intro hR (H0.out.2.trans hE))
  clear hR hE
  go_wp2_with fail
  refine (newedge_c r1 false _ HB.out.1).mono ?_
  rintro e w' ⟨rfl, rfl⟩
  go_wp2_with fail
  refine (setchl_c H1.out.1 (S.last + 1) (eg r1 false) (by have := W.out.1.la; simp [PS.newX]; omega)).mono ?_
  rintro e w2 ⟨rfl, L2, hR, hE⟩
  have H2 := Lib.hid (And.intro hR (H1.out.2.trans hE))
  clear hR hE
  go_wp2_with fail
  refine (newedge_c r2 false _ HB.out.2).mono ?_
  rintro e w' ⟨rfl, rfl⟩
  go_wp2_with fail
  refine (setchr_c H2.out.1 (S.last + 1) (eg r2 false) (by have := W.out.1.la; simp [PS.newX, PS.setl]; omega)).mono ?_
  rintro e w3 ⟨rfl, L3, hR, hE⟩
  have H3 := Lib.hid (And.intro hR (H2.out.2.trans hE))
  clear hR hE
  go_wp2_with fail
  refine (changeroot_c H3.out.1 r1 (S.last + 1) W.out.2.1 W.out.1.rt_new).mono ?_
  rintro e w4 ⟨rfl, L4, hR, hE⟩
  have H4 := Lib.hid (And.intro hR (H3.out.2.trans hE))
  clear hR hE
  go_wp2_with fail
  refine (removeroot_c H4.out.1 r2 (by
    have hr2 := W.out.1.ro r2 W.out.2.2.1
    have hla := W.out.1.la
    have h1 : r2 ≠ S.last + 1 := by omega
    have h2 := W.out.2.2.1
    have h3 := W.out.2.2.2.1
    simp [upd, h1, h3.symm, PS.setr, PS.setl, PS.newX, h2])).mono ?_
  rintro e w5 ⟨rfl, L5, hR, hE⟩
  have H5 := Lib.hid (And.intro hR (H4.out.2.trans hE))
  clear hR hE
  go_wp2_with fail
  refine (upush_c H5.out.1 9 (S.last + 1) 0 (by have := W.out.2.2.2.2.1; simp [PS.setr, PS.setl, PS.newX]; omega)).mono ?_
  rintro e w6 ⟨rfl, L6, hR, hE⟩
  have H6 := Lib.hid (And.intro hR (H5.out.2.trans hE))
  clear hR hE
  go_wp2
  go_ret
  exact ⟨rfl, L6, H6.out.1, H6.out.2⟩
end Go.Proofs.Ytapnmgkpljlgmaa
namespace Go.Proofs.Ytapnmgkpljlgmaa
open Go.RowKit

theorem nd_set (l : List (Nat × Nat)) (i : Nat) (v : Nat × Nat) (h : i < l.length) (j : Nat) : (l.set i v).getD j (0, 0) = if j = i then v else l.getD j (0, 0) := by
  simp only [List.getD_eq_getElem?_getD]
  by_cases hj : j = i
  · subst hj; rw [List.getElem?_set_self h]; simp
  · rw [List.getElem?_set_ne (fun e => hj e.symm), if_neg hj]
theorem setl_nd {S : PS} {i : Nat} (e : Nat) (h : i < S.nodes.length) (j : Nat) : (S.setl i e).nd j = if j = i then (e, (S.nd i).2) else S.nd j := nd_set S.nodes i _ h j
theorem setr_nd {S : PS} {i : Nat} (e : Nat) (h : i < S.nodes.length) (j : Nat) : (S.setr i e).nd j = if j = i then ((S.nd i).1, e) else S.nd j := nd_set S.nodes i _ h j
theorem push_nd (S : PS) (u : Un) (j : Nat) : (S.push u).nd j = S.nd j := rfl
theorem newX_nd (S : PS) (j : Nat) : S.newX.nd j = S.nd j := nd_app S.nodes j
theorem isE_lt {e j n : Nat} {s : Bool} (h : isE e j s) (hn : e / 2 < n) : j < n := by obtain ⟨_, rfl, _⟩ := h; exact hn
theorem InR.upd {nd nd' : Nat → Nat × Nat} {n m i : Nat} (h : InR nd n) (hm : n ≤ m) (ho : ∀ j, j ≠ i → nd' j = nd j) (h1 : (nd' i).1 ≠ 0 → (nd' i).1 / 2 < m) (h2 : (nd' i).2 ≠ 0 → (nd' i).2 / 2 < m) : InR nd' m := by
  intro x y s e
  by_cases hx : x = i
  · subst hx
    rcases e with e | e
    · exact isE_lt e (h1 e.1)
    · exact isE_lt e (h2 e.1)
  · unfold Ed at e; rw [ho x hx] at e
    exact Nat.lt_of_lt_of_le (h x y s e) hm
theorem tgt_of {S : PS} (h : WF0 S) (i : Nat) : (S.nd i).1 / 2 < S.nodes.length ∧ (S.nd i).2 / 2 < S.nodes.length := h.tgt i
theorem WF0.setl {S : PS} (h : WF0 S) {i e : Nat} (hi : i < S.nodes.length) (he : e / 2 < S.nodes.length) : WF0 (S.setl i e) := by
  refine ⟨by simpa [PS.setl] using h.la, by simpa [PS.setl] using h.sz, ?_⟩
  refine h.ir.upd (m := (S.setl i e).nodes.length) (i := i) (by simp [PS.setl]) (fun j hj => by rw [setl_nd e hi, if_neg hj]) ?_ ?_
  · intro _; rw [setl_nd e hi, if_pos rfl]; simpa [PS.setl] using he
  · intro _; rw [setl_nd e hi, if_pos rfl]; simpa [PS.setl] using (h.tgt i).2
theorem WF0.setr {S : PS} (h : WF0 S) {i e : Nat} (hi : i < S.nodes.length) (he : e / 2 < S.nodes.length) : WF0 (S.setr i e) := by
  refine ⟨by simpa [PS.setr] using h.la, by simpa [PS.setr] using h.sz, ?_⟩
  refine h.ir.upd (m := (S.setr i e).nodes.length) (i := i) (by simp [PS.setr]) (fun j hj => by rw [setr_nd e hi, if_neg hj]) ?_ ?_
  · intro _; rw [setr_nd e hi, if_pos rfl]; simpa [PS.setr] using (h.tgt i).1
  · intro _; rw [setr_nd e hi, if_pos rfl]; simpa [PS.setr] using he
theorem WF0.push {S : PS} (h : WF0 S) (u : Un) : WF0 (S.push u) := ⟨h.la, h.sz, h.ir⟩
theorem WF0.newX {S : PS} (h : WF0 S) (hs : S.nodes.length + 1 < 2147483648) : WF0 S.newX := by
  refine ⟨by have := h.la; simp [PS.newX]; omega, by simpa [PS.newX] using hs, ?_⟩
  intro x y s e
  unfold Ed at e; rw [newX_nd] at e
  have := h.ir x y s e
  rw [newX_len]; omega
theorem eg_half (t : Nat) (s : Bool) : eg t s / 2 = t := by unfold eg; cases s <;> simp <;> omega
theorem addchild_facts {S : PS} (h : WF0 S) (i1 i2 : Nat) (st : Bool) (h1 : i1 < S.nodes.length) (h2 : i2 < S.nodes.length) (hs : S.nodes.length + 1 < 2147483648) :
    WF0 (S.addchild i1 i2 st) ∧ (S.addchild i1 i2 st).nodes.length ≤ S.nodes.length + 1 ∧ S.nodes.length ≤ (S.addchild i1 i2 st).nodes.length ∧ (S.addchild i1 i2 st).lg.length ≤ S.lg.length + 2 ∧
      (∀ j, j < S.nodes.length → j ≠ i1 → (S.addchild i1 i2 st).nd j = S.nd j) ∧ (S.addchild i1 i2 st).vl = S.vl ∧ (S.addchild i1 i2 st).rt = S.rt ∧ (S.addchild i1 i2 st).nq = S.nq := by
  have hx := h.newX hs
  have hla := h.la
  have hl1 : S.last + 1 < S.newX.nodes.length := by rw [newX_len]; omega
  have htg := h.tgt i1
  unfold PS.addchild
  split
  · refine ⟨(h.setl h1 (by rw [eg_half]; exact h2)).push _, by simp [PS.setl, PS.push], by simp [PS.setl, PS.push], by simp [PS.setl, PS.push], fun j _ hj => ?_, rfl, rfl, rfl⟩
    rw [push_nd, setl_nd _ h1, if_neg hj]
  · split
    · refine ⟨(h.setr h1 (by rw [eg_half]; exact h2)).push _, by simp [PS.setr, PS.push], by simp [PS.setr, PS.push], by simp [PS.setr, PS.push], fun j _ hj => ?_, rfl, rfl, rfl⟩
      rw [push_nd, setr_nd _ h1, if_neg hj]
    · split
      · have a1 := hx.setl (e := (S.nd i1).2) hl1 (by rw [newX_len]; omega)
        have a2 := a1.setr (i := S.last + 1) (e := eg i2 st) (by rw [PS.setl_len]; exact hl1) (by rw [eg_half, PS.setl_len, newX_len]; omega)
        have a3 := a2.setr (i := i1) (e := eg (S.last + 1) false) (by rw [PS.setr_len, PS.setl_len, newX_len]; omega) (by rw [eg_half, PS.setr_len, PS.setl_len]; exact hl1)
        refine ⟨a3.push _, ?_, ?_, ?_, fun j hj1 hj => ?_, rfl, rfl, rfl⟩
        · simp [PS.setr, PS.setl, PS.push, PS.newX]
        · simp [PS.setr, PS.setl, PS.push, PS.newX]
        · simp [PS.setr, PS.setl, PS.push, PS.newX]
        · rw [push_nd, setr_nd _ (by rw [PS.setr_len, PS.setl_len, newX_len]; omega), if_neg hj, setr_nd _ (by rw [PS.setl_len]; exact hl1), if_neg (by omega), setl_nd _ hl1, if_neg (by omega), newX_nd]
      · have a1 := hx.setl (e := (S.nd i1).1) hl1 (by rw [newX_len]; omega)
        have a2 := a1.setr (i := S.last + 1) (e := eg i2 st) (by rw [PS.setl_len]; exact hl1) (by rw [eg_half, PS.setl_len, newX_len]; omega)
        have a3 := a2.setl (i := i1) (e := eg (S.last + 1) false) (by rw [PS.setr_len, PS.setl_len, newX_len]; omega) (by rw [eg_half, PS.setr_len, PS.setl_len]; exact hl1)
        refine ⟨a3.push _, ?_, ?_, ?_, fun j hj1 hj => ?_, rfl, rfl, rfl⟩
        · simp [PS.setr, PS.setl, PS.push, PS.newX]
        · simp [PS.setr, PS.setl, PS.push, PS.newX]
        · simp [PS.setr, PS.setl, PS.push, PS.newX]
        · rw [push_nd, setl_nd _ (by rw [PS.setr_len, PS.setl_len, newX_len]; omega), if_neg hj, setr_nd _ (by rw [PS.setl_len]; exact hl1), if_neg (by omega), setl_nd _ hl1, if_neg (by omega), newX_nd]

/-- What stays fixed while aliasnodes runs. -/
structure AFix where
  w : World
  p : Nat
  L : Lay
  S : PS
  i1 : Nat
  gO : Nat
  gT : Nat
  cT : Nat
  T : Nat → Bool

structure AInv (A : AFix) (m na nb : Nat) (S : PS) (wr : World) (Lk : Lay) : Prop where
  rep : Rep wr A.p S Lk
  ext : Ext A.w wr A.L Lk
  obs : Lk.nv.ownBlock = some A.gO ∨ (¬ Lk.own A.gO ∧ ∀ j, j < A.S.nodes.length → ∃ x : Nat × Nat, wr.cell? ⟨A.gO, j * 2, none⟩ = some (.int .u32 (x.1 : Nat)) ∧ wr.cell? ⟨A.gO, j * 2 + 1, none⟩ = some (.int .u32 (x.2 : Nat)) ∧ (m ≤ j → j ≠ A.i1 → x = A.S.nd j))
  same : ∀ j, m ≤ j → j < A.S.nodes.length → j ≠ A.i1 → S.nd j = A.S.nd j
  len : A.S.nodes.length ≤ S.nodes.length
  lena : S.nodes.length ≤ A.S.nodes.length + na
  lgb : S.lg.length ≤ A.S.lg.length + nb
  wf : WF0 S
  bits : Bits wr A.gT ((A.S.nodes.length + 63) / 64) A.cT A.T
  out : ¬ Lk.own A.gT
  old : A.gO < A.w.heap.size
  fld : S.vl = A.S.vl ∧ S.rt = A.S.rt ∧ S.nq = A.S.nq

def ok (r : Ending) : Prop := r = .returned (.tuple #[])

section
variable {A : AFix} {m na nb : Nat} {S : PS} {wr : World} {Lk : Lay}

theorem AInv.nix (h : AInv A m na nb S wr Lk) {w' : World} (f : Fr wr w' Nix) : AInv A m na nb S w' Lk :=
  { h with
    rep := h.rep.nix f
    ext := h.ext.trans (Ext.nix f)
    obs := h.obs.imp id fun ⟨h1, h2⟩ => ⟨h1, fun j a => by
      have hl := Nat.lt_of_lt_of_le h.old h.ext.fr.size
      obtain ⟨x, x1, x2, x3⟩ := h2 j a
      exact ⟨x, (f.cell (a := ⟨A.gO, j * 2, none⟩) hl fun e => e).trans x1, (f.cell (a := ⟨A.gO, j * 2 + 1, none⟩) hl fun e => e).trans x2, x3⟩⟩
    bits := h.bits.kept (f.block _ h.bits.lt fun e => e) }
theorem AInv.mono (h : AInv A m na nb S wr Lk) {m' na' nb' : Nat} (h1 : m ≤ m') (h2 : na ≤ na') (h3 : nb ≤ nb') : AInv A m' na' nb' S wr Lk :=
  { h with
    obs := h.obs.imp id fun ⟨a, b⟩ => ⟨a, fun j x => by
      obtain ⟨y, y1, y2, y3⟩ := b j x
      exact ⟨y, y1, y2, fun u v => y3 (by omega) v⟩⟩
    same := fun j x y z => h.same j (by omega) y z
    lena := Nat.le_trans h.lena (by omega)
    lgb := Nat.le_trans h.lgb (by omega) }

/-- A step that leaves the row of nodes where it lies. -/
theorem AInv.stepK (h : AInv A m na nb S wr Lk) {S' : PS} {w' : World} {L' : Lay} (hr : Rep w' A.p S' L') (he : Ext wr w' Lk L') (hn : L'.nv = Lk.nv) (hwf : WF0 S') (hl : S'.nodes.length = S.nodes.length) (hs : ∀ j, m ≤ j → j < A.S.nodes.length → j ≠ A.i1 → S'.nd j = S.nd j) {nb' : Nat} (hlg : S'.lg.length ≤ A.S.lg.length + nb')
    (hf : S'.vl = S.vl ∧ S'.rt = S.rt ∧ S'.nq = S.nq) : AInv A m na nb' S' w' L' := by
  have hlt : A.gO < wr.heap.size := Nat.lt_of_lt_of_le h.old h.ext.fr.size
  refine ⟨hr, h.ext.trans he, ?_, fun j a b c => (hs j a b c).trans (h.same j a b c), by rw [hl]; exact h.len, by rw [hl]; exact h.lena, hlg, hwf, h.bits.kept (he.fr.block _ h.bits.lt h.out), ?_, h.old, ?_⟩
  · rcases h.obs with h1 | ⟨h1, h2⟩
    · exact .inl (by rw [hn]; exact h1)
    · refine .inr ⟨fun ho => ?_, fun j a => ?_⟩
      · rcases he.own _ ho with h3 | h3
        · exact h1 h3
        · omega
      · obtain ⟨x, x1, x2, x3⟩ := h2 j a
        exact ⟨x, (he.fr.cell (a := ⟨A.gO, j * 2, none⟩) hlt h1).trans x1, (he.fr.cell (a := ⟨A.gO, j * 2 + 1, none⟩) hlt h1).trans x2, x3⟩
  · intro ho
    rcases he.own _ ho with h3 | h3
    · exact h.out h3
    · have := h.bits.lt; omega
  · exact ⟨hf.1.trans h.fld.1, hf.2.1.trans h.fld.2.1, hf.2.2.trans h.fld.2.2⟩

theorem setchl_a (h : AInv A m na nb S wr Lk) {i e : Nat} (hi : i < m) (hi2 : i < A.S.nodes.length) (he : e / 2 < S.nodes.length) :
    Calls Try.prog 118 #[.pointer (some ⟨A.p, 0, none⟩), .int .u32 (i : Nat), .int .u32 (e : Nat)] wr fun r w' => ok r ∧ ∃ L', AInv A m na nb (S.setl i e) w' L' := by
  have hi3 : i < S.nodes.length := Nat.lt_of_lt_of_le hi2 h.len
  refine (setchl_k h.rep i e hi3).mono ?_
  rintro r w' ⟨rfl, L', hr, hx, hn⟩
  exact ⟨rfl, L', h.stepK hr hx hn (h.wf.setl hi3 he) (PS.setl_len S i e) (fun j a b c => by rw [setl_nd e hi3, if_neg (by omega)]) h.lgb ⟨rfl, rfl, rfl⟩⟩
theorem setchr_a (h : AInv A m na nb S wr Lk) {i e : Nat} (hi : i < m) (hi2 : i < A.S.nodes.length) (he : e / 2 < S.nodes.length) :
    Calls Try.prog 119 #[.pointer (some ⟨A.p, 0, none⟩), .int .u32 (i : Nat), .int .u32 (e : Nat)] wr fun r w' => ok r ∧ ∃ L', AInv A m na nb (S.setr i e) w' L' := by
  have hi3 : i < S.nodes.length := Nat.lt_of_lt_of_le hi2 h.len
  refine (setchr_k h.rep i e hi3).mono ?_
  rintro r w' ⟨rfl, L', hr, hx, hn⟩
  exact ⟨rfl, L', h.stepK hr hx hn (h.wf.setr hi3 he) (PS.setr_len S i e) (fun j a b c => by rw [setr_nd e hi3, if_neg (by omega)]) h.lgb ⟨rfl, rfl, rfl⟩⟩
theorem upush_a (h : AInv A m na nb S wr Lk) (t i e : Nat) (hl : A.S.lg.length + nb < Lim) :
    Calls Try.prog 109 #[.pointer (some ⟨A.p, 0, none⟩), .int .u8 (t : Nat), .int .u32 (i : Nat), .int .u32 (e : Nat)] wr fun r w' => ok r ∧ ∃ L', AInv A m na (nb + 1) (S.push ⟨t, i, 0, e⟩) w' L' := by
  refine (upush_k h.rep t i e (Nat.lt_of_le_of_lt h.lgb hl)).mono ?_
  rintro r w' ⟨rfl, L', hr, hx, hn⟩
  exact ⟨rfl, L', h.stepK hr hx hn (h.wf.push _) rfl (fun j _ _ _ => rfl) (by have := h.lgb; simp [PS.push]; omega) ⟨rfl, rfl, rfl⟩⟩
theorem addchild_a (h : AInv A m na nb S wr Lk) {i2 : Nat} (st : Bool) (h1 : A.i1 < A.S.nodes.length) (h2 : i2 < S.nodes.length) (hl : A.S.lg.length + nb + 1 < Lim) (hs : A.S.nodes.length + na + 2 < 2147483648) :
    Calls Try.prog 107 #[.pointer (some ⟨A.p, 0, none⟩), .int .u32 (A.i1 : Nat), .int .u32 (i2 : Nat), .bool st] wr fun r w' => ok r ∧ ∃ L', AInv A m (na + 1) (nb + 2) (S.addchild A.i1 i2 st) w' L' := by
  have hlen := h.len
  have hla := h.wf.la
  have hlena := h.lena
  have hlgb := h.lgb
  obtain ⟨f1, f2, f3, f4, f5, f6⟩ := addchild_facts h.wf A.i1 i2 st (by omega) h2 (by omega)
  refine (addchild_n h.rep h.wf A.i1 i2 st (by omega) (by have := h.wf.sz; omega) (by omega) (by omega)).mono ?_
  rintro r w' ⟨rfl, L', hr, hx, hn⟩
  have hlt : A.gO < wr.heap.size := Nat.lt_of_lt_of_le h.old h.ext.fr.size
  refine ⟨rfl, L', hr, h.ext.trans hx, ?_, fun j a b c => (f5 j (by omega) c).trans (h.same j a b c), by omega, by omega, by omega, f1, h.bits.kept (hx.fr.block _ h.bits.lt h.out), ?_, h.old, ?_⟩
  · rcases h.obs with h3 | ⟨h3, h4⟩
    · rcases hn with hn | hn
      · exact .inl (hn.trans h3)
      · obtain ⟨g1, g2⟩ := hn _ h3
        refine .inr ⟨g1, fun j b => ?_⟩
        have hj : j < S.nodes.length := by omega
        obtain ⟨g, cap, hv, _, _, c1, c2, _⟩ := h.rep.nodes_at hj
        rw [hv] at h3
        simp only [Value.ownBlock, Option.some.injEq] at h3
        subst h3
        exact ⟨S.nd j, (World.cell?_of_block (a := ⟨A.gO, j * 2, none⟩) g2).trans c1, (World.cell?_of_block (a := ⟨A.gO, j * 2 + 1, none⟩) g2).trans c2, fun a c => h.same j a b c⟩
    · refine .inr ⟨fun ho => ?_, fun j a => ?_⟩
      · rcases hx.own _ ho with h5 | h5
        · exact h3 h5
        · omega
      · obtain ⟨x, x1, x2, x3⟩ := h4 j a
        exact ⟨x, (hx.fr.cell (a := ⟨A.gO, j * 2, none⟩) hlt h3).trans x1, (hx.fr.cell (a := ⟨A.gO, j * 2 + 1, none⟩) hlt h3).trans x2, x3⟩
  · intro ho
    rcases hx.own _ ho with h3 | h3
    · exact h.out h3
    · have := h.bits.lt; omega
  · exact ⟨f6.1.trans h.fld.1, f6.2.1.trans h.fld.2.1, f6.2.2.trans h.fld.2.2⟩
/-- What the range reads at place j: the node as it was, but for i1's. -/
theorem AInv.read (h : AInv A m na nb S wr Lk) {j : Nat} (hj : j < A.S.nodes.length) :
    ∃ x : Nat × Nat, wr.cell? ⟨A.gO, j * 2, none⟩ = some (.int .u32 (x.1 : Nat)) ∧ wr.cell? ⟨A.gO, j * 2 + 1, none⟩ = some (.int .u32 (x.2 : Nat)) ∧ (m ≤ j → j ≠ A.i1 → x = A.S.nd j) := by
  rcases h.obs with h3 | ⟨_, h4⟩
  · obtain ⟨g, cap, hv, _, _, c1, c2, _⟩ := h.rep.nodes_at (Nat.lt_of_lt_of_le hj h.len)
    rw [hv] at h3
    simp only [Value.ownBlock, Option.some.injEq] at h3
    subst h3
    exact ⟨S.nd j, c1, c2, fun a c => h.same j a hj c⟩
  · exact h4 j hj
end

/-! ## the step, as the code does it -/
def PS.alA (S : PS) (i1 : Nat) (T : Nat → Bool) (k l : Nat) : PS := if T (l / 2) = true then (S.setl k (eg i1 (l % 2 == 1))).push ⟨2, k, 0, l⟩ else S
def PS.alB (S : PS) (i1 : Nat) (T : Nat → Bool) (k r : Nat) : PS := if T (r / 2) = true then (S.setr k (eg i1 (r % 2 == 1))).push ⟨3, k, 0, r⟩ else S
def PS.alC (S : PS) (i1 : Nat) (T : Nat → Bool) (l : Nat) : PS := if l ≠ 0 ∧ T (l / 2) = false then S.addchild i1 (l / 2) (l % 2 == 1) else S
def PS.alD (S : PS) (k l r : Nat) : PS := (((S.setl k 0).setr k 0).push ⟨2, k, 0, l⟩).push ⟨3, k, 0, r⟩
def PS.alStep (S : PS) (i1 : Nat) (T : Nat → Bool) (k : Nat) (x : Nat × Nat) : PS :=
  if k = i1 then S
  else if T k = true then ((((S.alA i1 T k x.1).alB i1 T k x.2).alC i1 T x.1).alC i1 T x.2).alD k x.1 x.2
  else (S.alA i1 T k x.1).alB i1 T k x.2
def PS.alN (S : PS) (i1 : Nat) (T : Nat → Bool) : Nat → PS
  | 0 => S
  | k + 1 => (PS.alN S i1 T k).alStep i1 T k (S.nd k)
end Go.Proofs.Ytapnmgkpljlgmaa

/- setOrder: what it does to the plain state. SetOrder, SetOrderOrEqual. -/
import Derived.Test.YtapnmgkpljlgmaaG11
set_option linter.unusedVariables false
set_option linter.unusedSimpArgs false
namespace Go.Proofs.Ytapnmgkpljlgmaa
open Go.RowKit

def PS.addRoot (S : PS) (i : Nat) : PS := PS.push { S with rt := upd S.rt i true } ⟨7, i, 0, 0⟩
def PS.swapRoot (S : PS) (o e : Nat) (st : Bool) : PS := PS.push { S with rt := upd (upd S.rt o false) e true } ⟨8, e, 0, eg o st⟩
/-- Neither is there. -/
def PS.ordNew (S : PS) (x y : Nat) (st : Bool) : PS := (((S.newV x).newV y).addRoot (S.last + 1)).addchild (S.last + 1) (S.last + 2) st
/-- x alone is there. -/
def PS.ordR (S : PS) (x y : Nat) (st : Bool) : PS := (S.newV y).addchild (S.vl x) (S.last + 1) st
/-- y alone is there, and is a root. -/
def PS.ordL (S : PS) (x y : Nat) (st : Bool) : PS := ((S.newV x).swapRoot (S.vl y) (S.last + 1) st).addchild (S.last + 1) (S.vl y) st
/-- y alone is there, under root r. -/
def PS.ordX (S : PS) (x y r : Nat) (st : Bool) : PS :=
  ((((S.newV x).newX.swapRoot r (S.last + 2) false).addchild (S.last + 2) r false).addchild (S.last + 2) (S.last + 1) false).addchild (S.last + 1) (S.vl y) st
noncomputable def PS.tighten (S : PS) (i j : Nat) (st : Bool) : PS := if (st && !reachB S.nd i j true) = true then S.addchild i j true else S
/-- The roots above i and j, and the state with both under one root. -/
def Joined (S : PS) (i j : Nat) (T : PS) : Prop :=
  ∃ r1 r2, S.rt r1 = true ∧ reachB S.nd r1 i false = true ∧ S.rt r2 = true ∧ reachB S.nd r2 j false = true ∧ T = if r1 = r2 then S else S.mergeroot r1 r2
/-- n2 <= n1 is known, n1 <= n2 comes: all between them becomes one; the node of i stays. -/
def Collapsed (S : PS) (i j : Nat) (S' : PS) (b : Bool) : Prop :=
  (reachB S.nd i j true = true ∧ S' = S ∧ b = false) ∨
  (reachB S.nd i j true = false ∧ b = true ∧ ∃ ids : List Nat, ids.Nodup ∧ (∀ id, id ∈ ids ↔ S.vl id ≠ 0) ∧ S' = S.alias i (S.mid i j) ids)
/-- Both are there, at different nodes. -/
def PS.OrdB (S : PS) (i j : Nat) (st : Bool) (S' : PS) (b : Bool) : Prop :=
  (reachB S.nd i j false = true ∧ S' = S.tighten i j st ∧ b = true) ∨
  (reachB S.nd i j false = false ∧ reachB S.nd j i false = true ∧ st = true ∧ S' = S ∧ b = false) ∨
  (reachB S.nd i j false = false ∧ reachB S.nd j i false = true ∧ st = false ∧ Collapsed S j i S' b) ∨
  (reachB S.nd i j false = false ∧ reachB S.nd j i false = false ∧ b = true ∧ ∃ T, Joined S i j T ∧ S' = T.addchild i j st)
def PS.SetO (S : PS) (x y : Nat) (st : Bool) (S' : PS) (b : Bool) : Prop :=
  (S.vl x = 0 ∧ S.vl y = 0 ∧ S' = S.ordNew x y st ∧ b = true) ∨
  (S.vl x ≠ 0 ∧ S.vl y = 0 ∧ S' = S.ordR x y st ∧ b = true) ∨
  (S.vl x = 0 ∧ S.vl y ≠ 0 ∧ S.rt (S.vl y) = true ∧ S' = S.ordL x y st ∧ b = true) ∨
  (S.vl x = 0 ∧ S.vl y ≠ 0 ∧ S.rt (S.vl y) = false ∧ b = true ∧ ∃ r, S.rt r = true ∧ reachB S.nd r (S.vl y) false = true ∧ S' = S.ordX x y r st) ∨
  (S.vl x ≠ 0 ∧ S.vl y ≠ 0 ∧ S.vl x = S.vl y ∧ S' = S ∧ b = !st) ∨
  (S.vl x ≠ 0 ∧ S.vl y ≠ 0 ∧ S.vl x ≠ S.vl y ∧ S.OrdB (S.vl x) (S.vl y) (st || S.ne (S.vl x) (S.vl y)) S' b)

/-- Every value's node lies under a root. -/
def RootOK (S : PS) : Prop := ∀ id, S.vl id ≠ 0 → ∃ r, S.rt r = true ∧ reachB S.nd r (S.vl id) false = true

theorem newnodeV_n {w : World} {p : Nat} {S : PS} {L : Lay} (h : Rep w p S L) {a id i : Nat} (ha : IsV w L a id) (hid : S.vl id = 0) (hl : S.lg.length < Lim) (hn : S.nodes.length < Lim) (hs : S.last < 2147483647) (hi : S.last + 1 = i) :
    Calls Try.prog 108 #[.pointer (some ⟨p, 0, none⟩), .pointer (some ⟨a, 0, none⟩)] w (Post p w L (.int .u32 (i : Nat)) (S.newV id)) := by
  subst hi; exact newnodeV_c h ha hid hl hn hs
theorem newnodeX_n2 {w : World} {p : Nat} {S : PS} {L : Lay} (h : Rep w p S L) {i : Nat} (hl : S.lg.length < Lim) (hn : S.nodes.length < Lim) (hs : S.last < 2147483647) (hi : S.last + 1 = i) :
    Calls Try.prog 108 #[.pointer (some ⟨p, 0, none⟩), .pointer none] w (Post p w L (.int .u32 (i : Nat)) S.newX) := by
  subst hi; exact newnodeX_c h hl hn hs

theorem newV_nd (S : PS) (x : Nat) : (S.newV x).nd = S.nd := funext fun i => nd_app S.nodes i
theorem mergeroot_wf {S : PS} (h : WF1 S) {r1 r2 : Nat} (h1 : S.rt r1 = true) (h2 : S.rt r2 = true) (hs : S.nodes.length + 1 < 2147483648) :
    WF1 (S.mergeroot r1 r2) ∧ (S.mergeroot r1 r2).nodes.length = S.nodes.length + 1 ∧ (S.mergeroot r1 r2).lg.length = S.lg.length + 2 := by
  have hla := h.la
  have l1 := h.ro r1 h1
  have l2 := h.ro r2 h2
  have hx := h.newX hs
  have hn : S.newX.nodes.length = S.nodes.length + 1 := by simp [PS.newX]
  have hw1 := hx.toWF0.setl (i := S.last + 1) (e := eg r1 false) (by omega) (by rw [eg_half]; omega)
  have hw2 := hw1.setr (i := S.last + 1) (e := eg r2 false) (by rw [PS.setl_len]; omega) (by rw [eg_half, PS.setl_len]; omega)
  have hl2 : ((S.newX.setl (S.last + 1) (eg r1 false)).setr (S.last + 1) (eg r2 false)).nodes.length = S.nodes.length + 1 := by rw [PS.setr_len, PS.setl_len]; exact hn
  have hw3 : WF1 ((S.newX.setl (S.last + 1) (eg r1 false)).setr (S.last + 1) (eg r2 false)) :=
    ⟨hw2, fun r hr => by rw [hl2]; have := h.ro r hr; omega, fun id => by rw [hl2]; have := h.va id; show S.vl id < _; omega, fun i j hq => by rw [hl2]; have := h.qa i j hq; omega⟩
  refine ⟨WF1.push ((hw3.chroot (o := r1) (e := S.last + 1) (by rw [hl2]; omega)).unroot r2) _, hl2, by simp [PS.mergeroot, PS.push, PS.setr, PS.setl, PS.newX]⟩
def SPost (p : Nat) (w : World) (L : Lay) (R : PS → Bool → Prop) (e : Ending) (w' : World) : Prop :=
  ∃ S' b, R S' b ∧ e = .returned (.bool b) ∧ ∃ L', Rep w' p S' L' ∧ Ext w w' L L'

set_option maxRecDepth 5000 in
set_option maxHeartbeats 2000000 in
theorem setOrder_c {w : World} {p : Nat} {S : PS} {L : Lay} (h : Rep w p S L) (wf : WF1 S) (rok : RootOK S) (room : Room S) {a1 a2 x y : Nat} (h1 : IsV w L a1 x) (h2 : IsV w L a2 y) (hxy : x ≠ y) (st : Bool) :
    Calls Try.prog 117 #[.pointer (some ⟨p, 0, none⟩), .pointer (some ⟨a1, 0, none⟩), .pointer (some ⟨a2, 0, none⟩), .bool st] w (SPost p w L (S.SetO x y st)) := by
  have H0 := Lib.hid (And.intro h (And.intro wf (And.intro h1 (And.intro h2 (And.intro hxy room)))))
  have HR := Lib.hid rok
  have HS := Lib.hid (show S.nodes.length + 10 < 2147483648 ∧ S.lg.length + 40 < Lim ∧ S.last + 10 < 2147483647 ∧ S.nodes.length + 10 < Lim by
    have := room.sz; have := room.lg; have := wf.la; unfold Lim at *; omega)
  clear h wf h1 h2 hxy room rok
  obtain ⟨i, hi⟩ : ∃ i, S.vl x = i := ⟨_, rfl⟩
  obtain ⟨j, hj⟩ : ∃ j, S.vl y = j := ⟨_, rfl⟩
  have HI := Lib.hid (And.intro hi (And.intro hj (show i < S.nodes.length ∧ j < S.nodes.length from ⟨hi ▸ H0.out.2.1.va x, hj ▸ H0.out.2.1.va y⟩)))
  clear hi hj
  go_enter Try.func117, Try.ntmps117
  go_wp2_with fail
  refine (lookup_c H0.out.1 H0.out.2.2.1).mono ?_
  rintro e w2 ⟨rfl, hF⟩
  have F2 := Lib.hid hF
  clear hF
  go_wp2_with fail
  refine (lookup_c (H0.out.1.nix F2.out) (H0.out.2.2.2.1.nix F2.out)).mono ?_
  rintro e w3 ⟨rfl, hF⟩
  have F3 := Lib.hid (F2.out.trans hF fun _ e => .inl e)
  clear hF F2
  obtain ⟨f1, hf1⟩ : ∃ b, (S.vl x != 0) = b := ⟨_, rfl⟩
  obtain ⟨f2, hf2⟩ : ∃ b, (S.vl y != 0) = b := ⟨_, rfl⟩
  rw [hf1, hf2, show S.vl x = i from HI.out.1, show S.vl y = j from HI.out.2.1]
  have HF := Lib.hid (And.intro hf1 hf2)
  have H3 := Lib.hid (And.intro (H0.out.1.nix F3.out) (And.intro (Ext.nix (L := L) F3.out) (And.intro (H0.out.2.2.1.nix F3.out) (H0.out.2.2.2.1.nix F3.out))))
  clear hf1 hf2
  obtain ⟨n1, hn1⟩ : ∃ n, S.last + 1 = n := ⟨_, rfl⟩
  obtain ⟨n2, hn2⟩ : ∃ n, S.last + 1 + 1 = n := ⟨_, rfl⟩
  have HN := Lib.hid (And.intro hn1 (And.intro hn2 (show S.last + 2 = n2 from hn2)))
  have HA := Lib.hid (show S.last + 1 = S.nodes.length from H0.out.2.1.la)
  clear hn1 hn2
  cases f1
  · have HX := Lib.hid (show S.vl x = 0 by simpa using HF.out.1)
    cases f2
    · have HY := Lib.hid (show S.vl y = 0 by simpa using HF.out.2)
      go_wp2_with fail
      refine (newnodeV_n H3.out.1 H3.out.2.2.1 HX.out (by have := HS.out; omega) (by have := HS.out; omega) (by have := HS.out; omega) HN.out.1).mono ?_
      rintro e w4 ⟨rfl, L4, hR, hE⟩
      have H4 := Lib.hid (And.intro hR (H3.out.2.1.trans hE))
      have HV := Lib.hid (H3.out.2.2.2.ext hE)
      clear hR hE
      go_wp2_with fail
      refine (newnodeV_n H4.out.1 HV.out (by show upd S.vl x _ y = 0; simp [upd, Ne.symm H0.out.2.2.2.2.1]; exact HY.out) (by have := HS.out; simp [PS.newV]; omega) (by have := HS.out; simp [PS.newV]; omega) (by have := HS.out; simp [PS.newV]; omega) HN.out.2.1).mono ?_
      rintro e w5 ⟨rfl, L5, hR, hE⟩
      have H5 := Lib.hid (And.intro hR (H4.out.2.trans hE))
      clear hR hE
      have HW := Lib.hid ((H0.out.2.1.newV x (by have := HS.out; omega)).newV y (by have := HS.out; simp [PS.newV]; omega))
      have hc4 : w5.cell? ⟨p, 4, none⟩ = some L5.rv := by rw [cell_block H5.out.1.hp]; rfl
      have hrr := H5.out.1.hr
      have HLR := Lib.hid (lim4 (H5.out.1.rl_len (n := S.nodes.length) (fun r hr => H0.out.2.1.ro r hr)) (by have := HS.out; omega))
      have HRN := Lib.hid (show ((S.newV x).newV y).rt n1 = false by rw [← HN.out.1]; exact H0.out.2.1.rt_new)
      go_wp2_with (at_builtin; refine wpList_app _ rfl _ _ 105 rfl 108 _ 1 4 Try.underlying105 info_u32 rfl (by decide) _ _ _ rfl (hrr.alloc _) ⟨w5.heap.size, 0, none⟩ 1 1 (u32Cell n1) rfl rfl (by decide) (cells_new _ _ _) (u32_one _) HLR.out.1 HLR.out.2 ?_; intro g1 cap1 x1 hown1 hgrow1 hnew1; obtain ⟨hcc1, hff1, N1, hQ1, hX1⟩ := H5.out.1.roots_app (Fr.alloc _ _ _) HRN.out hown1 hgrow1 hnew1; have J1 := Lib.hid (And.intro hQ1 (H5.out.2.trans hX1)); clear hown1 hgrow1 hnew1 hQ1 hX1 hc4 hrr)
      refine (upush_c J1.out.1 7 n1 0 (by have := HS.out; simp [PS.newV]; omega)).mono ?_
      rintro e w6 ⟨rfl, L6, hR, hE⟩
      have H6 := Lib.hid (And.intro hR (J1.out.2.trans hE))
      clear hR hE hcc1 hff1
      have HL := Lib.hid (show n1 < ((S.newV x).newV y).nodes.length ∧ n2 < 2147483648 by have := HN.out; have := HA.out; have := HS.out; simp [PS.newV]; omega)
      have HW2 := Lib.hid ((HW.out.root HL.out.1).push ⟨7, n1, 0, 0⟩)
      go_wp2_with fail
      refine (addchild_c H6.out.1 HW2.out.toWF0 n1 n2 st HL.out.1 HL.out.2 (by have := HS.out; simp [PS.newV, PS.push]; omega) (by have := HS.out; simp [PS.newV, PS.push]; omega)).mono ?_
      rintro e w7 ⟨rfl, L7, hR, hE⟩
      have H7 := Lib.hid (And.intro hR (H6.out.2.trans hE))
      clear hR hE
      go_wp2
      go_ret
      obtain ⟨rfl, rfl, _⟩ := HN.out
      exact ⟨_, true, .inl ⟨HX.out, HY.out, rfl, rfl⟩, rfl, L7, H7.out⟩
    · have HY := Lib.hid (show S.vl y ≠ 0 by simpa using HF.out.2)
      go_wp2_with fail
      refine (newnodeV_n H3.out.1 H3.out.2.2.1 HX.out (by have := HS.out; omega) (by have := HS.out; omega) (by have := HS.out; omega) HN.out.1).mono ?_
      rintro e w4 ⟨rfl, L4, hR, hE⟩
      have H4 := Lib.hid (And.intro hR (H3.out.2.1.trans hE))
      clear hR hE
      have HW := Lib.hid (H0.out.2.1.newV x (by have := HS.out; omega))
      have HL := Lib.hid (show n1 < (S.newV x).nodes.length ∧ j < (S.newV x).nodes.length ∧ j < 2147483648 ∧ n1 < 2147483648 by have := HN.out; have := HA.out; have := HS.out; have := HI.out; simp [PS.newV]; omega)
      obtain ⟨b, hb⟩ : ∃ b, S.rt j = b := ⟨_, rfl⟩
      have hisr := isroot_c H4.out.1 j
      rw [show (S.newV x).rt j = b from hb] at hisr
      have HB := Lib.hid hb
      clear hb
      go_wp2_with fail
      refine hisr.mono ?_
      clear hisr
      rintro e w5 ⟨rfl, hF⟩
      have H5 := Lib.hid (And.intro (H4.out.1.nix hF) (H4.out.2.trans (Ext.nix hF)))
      clear hF
      cases b
      · go_wp2_with fail
        refine (findroot_c H5.out.1 HW.out.toWF0 j HW.out.ro (by
          obtain ⟨r, r1, r2⟩ := HR.out y HY.out
          exact ⟨r, r1, by rw [newV_nd, ← HI.out.2.1]; exact r2⟩)).mono ?_
        rintro e w6 ⟨r, hr, rfl, hF⟩
        have HRR := Lib.hid hr
        have H6 := Lib.hid (And.intro (H5.out.1.nix hF) (H5.out.2.trans (Ext.nix hF)))
        clear hr hF
        have HRL := Lib.hid (show r < S.nodes.length ∧ r < 2147483648 ∧ r < (S.newV x).newX.nodes.length by have := H0.out.2.1.ro r HRR.out.1; have := HS.out; simp [PS.newV, PS.newX]; omega)
        go_wp2_with fail
        refine (newnodeX_n2 H6.out.1 (by have := HS.out; simp [PS.newV]; omega) (by have := HS.out; simp [PS.newV]; omega) (by have := HS.out; simp [PS.newV]; omega) (i := n2) HN.out.2.1).mono ?_
        rintro e w7 ⟨rfl, L7, hR, hE⟩
        have H7 := Lib.hid (And.intro hR (H6.out.2.trans hE))
        clear hR hE
        have HW2 := Lib.hid (HW.out.newX (by have := HS.out; simp [PS.newV]; omega))
        have HL2 := Lib.hid (show n2 < (S.newV x).newX.nodes.length ∧ n2 < 2147483648 by have := HN.out; have := HA.out; have := HS.out; simp [PS.newV, PS.newX]; omega)
        go_wp2_with fail
        refine (changeroot_c H7.out.1 r n2 HRR.out.1 (by
          show S.rt n2 = false
          cases e : S.rt n2
          · rfl
          · have := H0.out.2.1.ro n2 e; have := HN.out; have := HA.out; omega)).mono ?_
        rintro e w8 ⟨rfl, L8, hR, hE⟩
        have H8 := Lib.hid (And.intro hR (H7.out.2.trans hE))
        clear hR hE
        go_wp2_with fail
        refine (newedge_c r false _ HRL.out.2.1).mono ?_
        rintro e w9 ⟨rfl, rfl⟩
        go_wp2_with fail
        refine (upush_c H8.out.1 8 n2 (eg r false) (by have := HS.out; simp [PS.newV, PS.newX]; omega)).mono ?_
        rintro e w10 ⟨rfl, L10, hR, hE⟩
        have H10 := Lib.hid (And.intro hR (H8.out.2.trans hE))
        clear hR hE
        obtain ⟨T, hT⟩ : ∃ T, (S.newV x).newX.swapRoot r n2 false = T := ⟨_, rfl⟩
        have HW3 := Lib.hid (show WF1 ((S.newV x).newX.swapRoot r n2 false) from (HW2.out.chroot HL2.out.1).push _)
        have HTL := Lib.hid (show T.nodes.length = S.nodes.length + 2 ∧ T.lg.length = S.lg.length + 3 by rw [← hT]; simp [PS.swapRoot, PS.newV, PS.newX, PS.push])
        rw [show PS.push _ _ = T from hT] at H10
        rw [hT] at HW3
        have HT := Lib.hid hT
        clear hT
        go_wp2_with fail
        refine (addchild_c H10.out.1 HW3.out.toWF0 n2 r false (by have := HTL.out; have := HN.out; have := HA.out; omega) HRL.out.2.1 (by have := HS.out; have := HTL.out; omega) (by have := HW3.out.la; have := HTL.out; have := HS.out; omega)).mono ?_
        rintro e w11 ⟨rfl, L11, hR, hE⟩
        have H11 := Lib.hid (And.intro hR (H10.out.2.trans hE))
        clear hR hE
        have HA1 := Lib.hid (addchild_facts HW3.out.toWF0 n2 r false (by have := HTL.out; have := HN.out; have := HA.out; omega) (by have := HTL.out; have := HRL.out; omega) (by have := HS.out; have := HTL.out; omega))
        have HB1 := Lib.hid (show (T.addchild n2 r false).nodes.length + 5 < 2147483648 ∧ (T.addchild n2 r false).lg.length + 10 < Lim ∧ S.nodes.length + 2 ≤ (T.addchild n2 r false).nodes.length by have := HA1.out; have := HTL.out; have := HS.out; omega)
        go_wp2_with fail
        refine (addchild_c H11.out.1 HA1.out.1 n2 n1 false (by have := HB1.out; have := HN.out; have := HA.out; omega) HL.out.2.2.2 (by have := HB1.out; omega) (by have := HA1.out.1.la; have := HB1.out; omega)).mono ?_
        rintro e w12 ⟨rfl, L12, hR, hE⟩
        have H12 := Lib.hid (And.intro hR (H11.out.2.trans hE))
        clear hR hE
        have HA2 := Lib.hid (addchild_facts HA1.out.1 n2 n1 false (by have := HB1.out; have := HN.out; have := HA.out; omega) (by have := HB1.out; have := HN.out; have := HA.out; omega) (by have := HB1.out; omega))
        have HB2 := Lib.hid (show ((T.addchild n2 r false).addchild n2 n1 false).nodes.length + 3 < 2147483648 ∧ ((T.addchild n2 r false).addchild n2 n1 false).lg.length + 5 < Lim ∧ S.nodes.length + 2 ≤ ((T.addchild n2 r false).addchild n2 n1 false).nodes.length by have := HA2.out; have := HB1.out; omega)
        go_wp2_with fail
        refine (addchild_c H12.out.1 HA2.out.1 n1 j st (by have := HB2.out; have := HN.out; have := HA.out; omega) HL.out.2.2.1 (by have := HB2.out; omega) (by have := HA2.out.1.la; have := HB2.out; omega)).mono ?_
        rintro e w13 ⟨rfl, L13, hR, hE⟩
        have H13 := Lib.hid (And.intro hR (H12.out.2.trans hE))
        clear hR hE
        go_wp2
        go_ret
        obtain ⟨rfl, rfl, _⟩ := HN.out
        obtain rfl := HI.out.2.1
        have hrr := HRR.out
        rw [newV_nd] at hrr
        have hT := HT.out
        subst hT
        exact ⟨_, true, .inr (.inr (.inr (.inl ⟨HX.out, HY.out, HB.out, rfl, r, hrr.1, hrr.2, rfl⟩))), rfl, L13, H13.out⟩
      · go_wp2_with fail
        refine (changeroot_c H5.out.1 j n1 HB.out (by show S.rt n1 = false; rw [← HN.out.1]; exact H0.out.2.1.rt_new)).mono ?_
        rintro e w6 ⟨rfl, L6, hR, hE⟩
        have H6 := Lib.hid (And.intro hR (H5.out.2.trans hE))
        clear hR hE
        go_wp2_with fail
        refine (newedge_c j st _ HL.out.2.2.1).mono ?_
        rintro e w9 ⟨rfl, rfl⟩
        go_wp2_with fail
        refine (upush_c H6.out.1 8 n1 (eg j st) (by have := HS.out; simp [PS.newV]; omega)).mono ?_
        rintro e w7 ⟨rfl, L7, hR, hE⟩
        have H7 := Lib.hid (And.intro hR (H6.out.2.trans hE))
        clear hR hE
        have HW2 := Lib.hid ((HW.out.chroot (o := j) HL.out.1).push ⟨8, n1, 0, eg j st⟩)
        go_wp2_with fail
        refine (addchild_c H7.out.1 HW2.out.toWF0 n1 j st HL.out.1 HL.out.2.2.1 (by have := HS.out; simp [PS.newV, PS.push]; omega) (by have := HS.out; simp [PS.newV, PS.push]; omega)).mono ?_
        rintro e w8 ⟨rfl, L8, hR, hE⟩
        have H8 := Lib.hid (And.intro hR (H7.out.2.trans hE))
        clear hR hE
        go_wp2
        go_ret
        obtain ⟨rfl, rfl, _⟩ := HN.out
        obtain rfl := HI.out.2.1
        exact ⟨_, true, .inr (.inr (.inl ⟨HX.out, HY.out, HB.out, rfl, rfl⟩)), rfl, L8, H8.out⟩
  · have HX := Lib.hid (show S.vl x ≠ 0 by simpa using HF.out.1)
    cases f2
    · have HY := Lib.hid (show S.vl y = 0 by simpa using HF.out.2)
      go_wp2_with fail
      refine (newnodeV_n H3.out.1 H3.out.2.2.2 HY.out (by have := HS.out; omega) (by have := HS.out; omega) (by have := HS.out; omega) HN.out.1).mono ?_
      rintro e w4 ⟨rfl, L4, hR, hE⟩
      have H4 := Lib.hid (And.intro hR (H3.out.2.1.trans hE))
      clear hR hE
      have HW := Lib.hid (H0.out.2.1.newV y (by have := HS.out; omega))
      go_wp2_with fail
      refine (addchild_c H4.out.1 HW.out.toWF0 i n1 st (by have := HI.out; simp [PS.newV]; omega) (by have := HN.out; have := HS.out; omega) (by have := HS.out; simp [PS.newV]; omega) (by have := HS.out; simp [PS.newV]; omega)).mono ?_
      rintro e w5 ⟨rfl, L5, hR, hE⟩
      have H5 := Lib.hid (And.intro hR (H4.out.2.trans hE))
      clear hR hE
      go_wp2
      go_ret
      obtain ⟨rfl, rfl, _⟩ := HN.out
      obtain rfl := HI.out.1
      exact ⟨_, true, .inr (.inl ⟨HX.out, HY.out, rfl, rfl⟩), rfl, L5, H5.out⟩
    · have HY := Lib.hid (show S.vl y ≠ 0 by simpa using HF.out.2)
      by_cases hij : i = j
      · have hb := eqq_true hij
        have HIJ := Lib.hid hij
        clear hij
        go_wp2
        go_ret
        exact ⟨S, !st, .inr (.inr (.inr (.inr (.inl ⟨HX.out, HY.out, HI.out.1.trans (HIJ.out.trans HI.out.2.1.symm), rfl, rfl⟩)))), rfl, L, H3.out.1, H3.out.2.1⟩
      · have hb := eqq_false hij
        have HIJ := Lib.hid hij
        have HL := Lib.hid (show i < 2147483648 ∧ j < 2147483648 by have := HI.out; have := HS.out; omega)
        obtain ⟨n, hn⟩ : ∃ b, S.ne i j = b := ⟨_, rfl⟩
        have hno := isnoneq_c H3.out.1 i j (by have := HL.out; omega) (by have := HL.out; omega)
        rw [hn] at hno
        have HNE := Lib.hid hn
        clear hij hn
        go_upto_region 28 with fail
        go_cut [145] (fun c wx => c = .bool (!st && n) ∧ Rep wx p S L ∧ Ext w wx L L)
        case first =>
          cases st
          · go_wp2_with fail
            refine hno.mono ?_
            clear hno
            rintro e w4 ⟨rfl, hF⟩
            have H4 := Lib.hid (And.intro (H3.out.1.nix hF) (H3.out.2.1.trans (Ext.nix hF)))
            clear hF
            go_wp2_with fail
            go_meet
            case rel => exact ⟨rfl, H4.out.1, H4.out.2⟩
          · clear hno
            go_wp2_with fail
            go_meet
            case rel => exact ⟨rfl, H3.out.1, H3.out.2.1⟩
        case rest =>
        clear hno
        obtain ⟨rfl, hR, hE⟩ := hcut
        have H4 := Lib.hid (And.intro hR hE)
        clear hR hE
        go_upto_if 145 with fail
        go_cut [3] (fun c wx => c = .bool (st || n) ∧ Rep wx p S L ∧ Ext w wx L L)
        case first =>
          cases st <;> cases n
          all_goals (go_wp2; go_meet)
          all_goals exact ⟨rfl, H4.out.1, H4.out.2⟩
        case rest =>
        obtain ⟨rfl, hR, hE⟩ := hcut
        have H5 := Lib.hid (And.intro hR hE)
        clear hR hE
        obtain ⟨g, hg⟩ : ∃ b, (st || n) = b := ⟨_, rfl⟩
        rw [hg]
        have HFIN : ∀ S' b, S.OrdB i j g S' b → S.SetO x y st S' b := fun S' b h =>
          .inr (.inr (.inr (.inr (.inr ⟨HX.out, HY.out, fun e => HIJ.out (HI.out.1.symm.trans (e.trans HI.out.2.1)), by rw [HI.out.1, HI.out.2.1, HNE.out, hg]; exact h⟩))))
        have HFIN := Lib.hid HFIN
        clear hg
        obtain ⟨b1, hb1⟩ : ∃ b, reachB S.nd i j false = b := ⟨_, rfl⟩
        have hre := reaches_c H5.out.1 H0.out.2.1.toWF0 i j false HI.out.2.2.1
        rw [hb1] at hre
        have HB1 := Lib.hid hb1
        clear hb1
        go_wp2_with fail
        refine hre.mono ?_
        clear hre
        rintro e w6 ⟨rfl, hF⟩
        have H6 := Lib.hid (And.intro (H5.out.1.nix hF) (H5.out.2.trans (Ext.nix hF)))
        clear hF
        cases b1
        · obtain ⟨b3, hb3⟩ : ∃ b, reachB S.nd j i false = b := ⟨_, rfl⟩
          have hre := reaches_c H6.out.1 H0.out.2.1.toWF0 j i false HI.out.2.2.2
          rw [hb3] at hre
          have HB3 := Lib.hid hb3
          clear hb3
          go_wp2_with fail
          refine hre.mono ?_
          clear hre
          rintro e w7 ⟨rfl, hF⟩
          have H7 := Lib.hid (And.intro (H6.out.1.nix hF) (H6.out.2.trans (Ext.nix hF)))
          have F7 := Lib.hid hF
          clear hF
          cases b3
          · go_wp2_with fail
            have hrt : ∀ z, S.vl z ≠ 0 → ∃ r, S.rt r = true ∧ reachB S.nd r (S.vl z) false = true := HR.out
            have HRT := Lib.hid (And.intro (HI.out.1 ▸ hrt x HX.out) (HI.out.2.1 ▸ hrt y HY.out))
            clear hrt
            refine (findroot_c H7.out.1 H0.out.2.1.toWF0 i H0.out.2.1.ro HRT.out.1).mono ?_
            rintro e w8 ⟨r1, hr1, rfl, hF⟩
            have HR1 := Lib.hid hr1
            have H8 := Lib.hid (And.intro (H7.out.1.nix hF) (H7.out.2.trans (Ext.nix hF)))
            clear hF hr1
            go_wp2_with fail
            refine (findroot_c H8.out.1 H0.out.2.1.toWF0 j H0.out.2.1.ro HRT.out.2).mono ?_
            rintro e w9 ⟨r2, hr2, rfl, hF⟩
            have HR2 := Lib.hid hr2
            have H9 := Lib.hid (And.intro (H8.out.1.nix hF) (H8.out.2.trans (Ext.nix hF)))
            clear hF hr2
            by_cases hrr : r1 = r2
            · have hb2 := neq_false hrr
              have HRR := Lib.hid hrr
              clear hrr
              go_wp2_with fail
              refine (addchild_c H9.out.1 H0.out.2.1.toWF0 i j g HI.out.2.2.1 HL.out.2 (by have := HS.out; omega) (by have := HS.out; omega)).mono ?_
              rintro e w10 ⟨rfl, L10, hR, hE⟩
              have H10 := Lib.hid (And.intro hR (H9.out.2.trans hE))
              clear hR hE
              go_wp2
              go_ret
              exact ⟨_, true, HFIN.out _ _ (.inr (.inr (.inr ⟨HB1.out, HB3.out, rfl, S, ⟨r1, r2, HR1.out.1, HR1.out.2, HR2.out.1, HR2.out.2, (if_pos HRR.out).symm⟩, rfl⟩))), rfl, L10, H10.out⟩
            · have hb2 := neq_true hrr
              have HRR := Lib.hid hrr
              clear hrr
              have HM := Lib.hid (mergeroot_wf H0.out.2.1 HR1.out.1 HR2.out.1 (by have := HS.out; omega))
              go_wp2_with fail
              refine (mergeroot_c H9.out.1 H0.out.2.1 r1 r2 HR1.out.1 HR2.out.1 HRR.out (by have := HS.out; omega) (by have := HS.out; omega)).mono ?_
              rintro e w10 ⟨rfl, L10, hR, hE⟩
              have H10 := Lib.hid (And.intro hR (H9.out.2.trans hE))
              clear hR hE
              go_wp2_with fail
              refine (addchild_c H10.out.1 HM.out.1.toWF0 i j g (by have := HM.out.2.1; have := HI.out; omega) HL.out.2 (by have := HM.out.2.2; have := HS.out; omega) (by have := HM.out.1.la; have := HM.out.2.1; have := HS.out; omega)).mono ?_
              rintro e w11 ⟨rfl, L11, hR, hE⟩
              have H11 := Lib.hid (And.intro hR (H10.out.2.trans hE))
              clear hR hE
              go_wp2
              go_ret
              exact ⟨_, true, HFIN.out _ _ (.inr (.inr (.inr ⟨HB1.out, HB3.out, rfl, S.mergeroot r1 r2, ⟨r1, r2, HR1.out.1, HR1.out.2, HR2.out.1, HR2.out.2, (if_neg HRR.out).symm⟩, rfl⟩))), rfl, L11, H11.out⟩
          · cases g
            · have hcp := collapsepath_c H7.out.1 H0.out.2.1 H0.out.2.2.2.2.2 (H0.out.2.2.2.1.ext H7.out.2) (H0.out.2.2.1.ext H7.out.2) HY.out
              rw [HI.out.1, HI.out.2.1] at hcp
              obtain ⟨b4, hb4⟩ : ∃ b, reachB S.nd j i true = b := ⟨_, rfl⟩
              rw [hb4] at hcp
              have HB4 := Lib.hid hb4
              clear hb4
              go_wp2_with fail
              refine hcp.mono ?_
              clear hcp
              cases b4
              · rintro e w8 ⟨rfl, ids, L8, k1, k2, hR, hE⟩
                have H8 := Lib.hid (And.intro hR (H7.out.2.trans hE))
                have HK := Lib.hid (And.intro k1 k2)
                clear hR hE k1 k2
                go_wp2
                go_ret
                exact ⟨_, true, HFIN.out _ _ (.inr (.inr (.inl ⟨HB1.out, HB3.out, rfl, .inr ⟨HB4.out, rfl, ids, HK.out.1, HK.out.2, rfl⟩⟩))), rfl, L8, H8.out⟩
              · rintro e w8 ⟨rfl, hF⟩
                have H8 := Lib.hid (And.intro (H7.out.1.nix hF) (H7.out.2.trans (Ext.nix hF)))
                clear hF
                go_wp2
                go_ret
                exact ⟨S, false, HFIN.out _ _ (.inr (.inr (.inl ⟨HB1.out, HB3.out, rfl, .inl ⟨HB4.out, rfl, rfl⟩⟩))), rfl, L, H8.out⟩
            · go_wp2
              go_ret
              exact ⟨S, false, HFIN.out _ _ (.inr (.inl ⟨HB1.out, HB3.out, rfl, rfl, rfl⟩)), rfl, L, H7.out⟩
        · cases g
          · go_wp2
            go_ret
            exact ⟨S, true, HFIN.out _ _ (.inl ⟨HB1.out, rfl, rfl⟩), rfl, L, H6.out⟩
          · obtain ⟨b2, hb2⟩ : ∃ b, reachB S.nd i j true = b := ⟨_, rfl⟩
            have hre := reaches_c H6.out.1 H0.out.2.1.toWF0 i j true HI.out.2.2.1
            rw [hb2] at hre
            have HB2 := Lib.hid hb2
            clear hb2
            go_wp2_with fail
            refine hre.mono ?_
            clear hre
            rintro e w7 ⟨rfl, hF⟩
            have H7 := Lib.hid (And.intro (H6.out.1.nix hF) (H6.out.2.trans (Ext.nix hF)))
            clear hF
            cases b2
            · go_wp2_with fail
              refine (addchild_c H7.out.1 H0.out.2.1.toWF0 i j true HI.out.2.2.1 HL.out.2 (by have := HS.out; omega) (by have := HS.out; omega)).mono ?_
              rintro e w8 ⟨rfl, L8, hR, hE⟩
              have H8 := Lib.hid (And.intro hR (H7.out.2.trans hE))
              clear hR hE
              go_wp2
              go_ret
              exact ⟨_, true, HFIN.out _ _ (.inl ⟨HB1.out, by rw [PS.tighten, if_pos (by rw [HB2.out]; rfl)], rfl⟩), rfl, L8, H8.out⟩
            · go_wp2
              go_ret
              exact ⟨S, true, HFIN.out _ _ (.inl ⟨HB1.out, by rw [PS.tighten, if_neg (by rw [HB2.out]; decide)], rfl⟩), rfl, L, H7.out⟩
end Go.Proofs.Ytapnmgkpljlgmaa
namespace Go.Proofs.Ytapnmgkpljlgmaa
open Go.RowKit

set_option maxHeartbeats 1000000 in
theorem SetOrder_c {w : World} {p : Nat} {S : PS} {L : Lay} (h : Rep w p S L) (wf : WF1 S) (rok : RootOK S) (room : Room S) {a1 a2 x y : Nat} (h1 : IsV w L a1 x) (h2 : IsV w L a2 y) (hxy : x ≠ y) :
    Calls Try.prog 93 #[.pointer (some ⟨p, 0, none⟩), .pointer (some ⟨a1, 0, none⟩), .pointer (some ⟨a2, 0, none⟩)] w (SPost p w L (S.SetO x y true)) := by
  have hc1 := h1.cell
  have hc2 := h2.cell
  have hid := eqq_false hxy
  have hs := fun w' (f : Fr w w' Nix) => setOrder_c (h.nix f) wf rok room (h1.nix f) (h2.nix f) hxy true
  have HS := Lib.hid hs
  clear hs h wf rok room h1 h2 hxy
  go_enter Try.func93, Try.ntmps93
  go_wp2
  go_quiet (fail)
  have F1 := Lib.hid (Fr.drewN w nq Nix)
  generalize w.drewN nq = w1 at *
  clear hc1 hc2 hid
  go_wp2_with fail
  refine (HS.out w1 F1.out).mono ?_
  rintro e w2 ⟨S', b, hR, rfl, L', h1, h2⟩
  have H := Lib.hid (And.intro hR (And.intro h1 ((Ext.nix (L := L) F1.out).trans h2)))
  clear hR h1 h2
  go_wp2
  go_ret
  exact ⟨S', b, H.out.1, rfl, L', H.out.2⟩

set_option maxHeartbeats 1000000 in
theorem SetOrderOrEqual_c {w : World} {p : Nat} {S : PS} {L : Lay} (h : Rep w p S L) (wf : WF1 S) (rok : RootOK S) (room : Room S) {a1 a2 x y : Nat} (h1 : IsV w L a1 x) (h2 : IsV w L a2 y) (hxy : x ≠ y) :
    Calls Try.prog 95 #[.pointer (some ⟨p, 0, none⟩), .pointer (some ⟨a1, 0, none⟩), .pointer (some ⟨a2, 0, none⟩)] w (SPost p w L (S.SetO x y false)) := by
  have hc1 := h1.cell
  have hc2 := h2.cell
  have hid := eqq_false hxy
  have hs := fun w' (f : Fr w w' Nix) => setOrder_c (h.nix f) wf rok room (h1.nix f) (h2.nix f) hxy false
  have HS := Lib.hid hs
  clear hs h wf rok room h1 h2 hxy
  go_enter Try.func95, Try.ntmps95
  go_wp2
  go_quiet (fail)
  have F1 := Lib.hid (Fr.drewN w nq Nix)
  generalize w.drewN nq = w1 at *
  clear hc1 hc2 hid
  go_wp2_with fail
  refine (HS.out w1 F1.out).mono ?_
  rintro e w2 ⟨S', b, hR, rfl, L', h1, h2⟩
  have H := Lib.hid (And.intro hR (And.intro h1 ((Ext.nix (L := L) F1.out).trans h2)))
  clear hR h1 h2
  go_wp2
  go_ret
  exact ⟨S', b, H.out.1, rfl, L', H.out.2⟩
end Go.Proofs.Ytapnmgkpljlgmaa

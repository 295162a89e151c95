/- findpaths: the walk. findpaths. collapsepath. WF1 under the operations. -/
import Derived.Test.YtapnmgkpljlgmaaG07
import Derived.Test.YtapnmgkpljlgmaaG06
import Derived.Test.YtapnmgkpljlgmaaG09
set_option linter.unusedVariables false
set_option linter.unusedSimpArgs false
namespace Go.Proofs.Ytapnmgkpljlgmaa
open Go.RowKit

abbrev SP := (Nat → Bool) × (Nat → Bool)
/-- What findpaths1 computes: (seen, path). -/
def fpGo (f : Nat → SP → SP) (x : Nat) (s : SP) : SP := if s.1 x = true then s else f x s
def fpEnd (cur l r : Nat) (s : SP) : SP := if (s.2 l || s.2 r) = true then (s.1, setB s.2 cur) else s
def fp (nd : Nat → Nat × Nat) (dst : Nat) : Nat → Nat → SP → SP
  | 0, _, s => s
  | k + 1, cur, s =>
    if cur = dst then s else fpEnd cur ((nd cur).1 / 2) ((nd cur).2 / 2) (fpGo (fp nd dst k) ((nd cur).2 / 2) (fpGo (fp nd dst k) ((nd cur).1 / 2) (setB s.1 cur, s.2)))

theorem fpGo_no {f : Nat → SP → SP} {x : Nat} {s : SP} (h : s.1 x = false) : fpGo f x s = f x s := if_neg (by rw [h]; decide)
theorem fpGo_yes {f : Nat → SP → SP} {x : Nat} {s : SP} (h : s.1 x = true) : fpGo f x s = s := if_pos h
structure FFix where
  w : World
  p : Nat
  S : PS
  L : Lay
  gS : Nat
  cS : Nat
  gP : Nat
  cP : Nat
structure FOk (F : FFix) : Prop where
  ne : F.gS ≠ F.gP
  os : ¬ F.L.own F.gS
  op : ¬ F.L.own F.gP
  wf : WF0 F.S
structure FInv (F : FFix) (wr : World) (s : SP) : Prop where
  rep : Rep wr F.p F.S F.L
  fr : Fr F.w wr (fun i => i = F.gS ∨ i = F.gP)
  bs : Bits wr F.gS ((F.S.nodes.length + 63) / 64) F.cS s.1
  bp : Bits wr F.gP ((F.S.nodes.length + 63) / 64) F.cP s.2

theorem FInv.nix {F : FFix} {wr w' : World} {s : SP} (h : FInv F wr s) (f : Fr wr w' Nix) : FInv F w' s :=
  ⟨h.rep.nix f, h.fr.trans f fun _ e => e.elim, h.bs.kept (f.block _ h.bs.lt fun e => e), h.bp.kept (f.block _ h.bp.lt fun e => e)⟩
theorem FInv.testS {F : FFix} (ok : FOk F) {wr : World} {s : SP} (h : FInv F wr s) {x k : Nat} (hk : (F.S.nodes.length + 63) / 64 = k) (hx : x < F.S.nodes.length) :
    Calls Try.prog 127 #[.slice (some ⟨F.gS, 0, none⟩) k F.cS, .int .u32 (x : Nat)] wr fun r w' => r = .returned (.bool (s.1 x)) ∧ wr = w' := by
  subst hk; exact Test_c h.bs x (by omega) (by have := ok.wf.sz; omega)
theorem FInv.testP {F : FFix} (ok : FOk F) {wr : World} {s : SP} (h : FInv F wr s) {x k : Nat} (hk : (F.S.nodes.length + 63) / 64 = k) (hx : x < F.S.nodes.length) :
    Calls Try.prog 127 #[.slice (some ⟨F.gP, 0, none⟩) k F.cP, .int .u32 (x : Nat)] wr fun r w' => r = .returned (.bool (s.2 x)) ∧ wr = w' := by
  subst hk; exact Test_c h.bp x (by omega) (by have := ok.wf.sz; omega)
theorem FInv.setS {F : FFix} (ok : FOk F) {wr : World} {s : SP} (h : FInv F wr s) {x k : Nat} (hk : (F.S.nodes.length + 63) / 64 = k) (hx : x < F.S.nodes.length) :
    Calls Try.prog 115 #[.slice (some ⟨F.gS, 0, none⟩) k F.cS, .int .u32 (x : Nat)] wr fun r w' => r = .returned (.tuple #[]) ∧ FInv F w' (setB s.1 x, s.2) := by
  subst hk
  refine (Set_c h.bs x (by omega) (by have := ok.wf.sz; omega)).mono ?_
  rintro r w' ⟨rfl, h1, h2⟩
  exact ⟨rfl, h.rep.kept h2 fun g hg e => ok.os (e ▸ hg), h.fr.trans h2 fun i e => .inl (.inl e), h1, h.bp.kept (h2.block _ h.bp.lt fun e => ok.ne e.symm)⟩
theorem FInv.setP {F : FFix} (ok : FOk F) {wr : World} {s : SP} (h : FInv F wr s) {x k : Nat} (hk : (F.S.nodes.length + 63) / 64 = k) (hx : x < F.S.nodes.length) :
    Calls Try.prog 115 #[.slice (some ⟨F.gP, 0, none⟩) k F.cP, .int .u32 (x : Nat)] wr fun r w' => r = .returned (.tuple #[]) ∧ FInv F w' (s.1, setB s.2 x) := by
  subst hk
  refine (Set_c h.bp x (by omega) (by have := ok.wf.sz; omega)).mono ?_
  rintro r w' ⟨rfl, h1, h2⟩
  exact ⟨rfl, h.rep.kept h2 fun g hg e => ok.op (e ▸ hg), h.fr.trans h2 fun i e => .inl (.inr e), h.bs.kept (h2.block _ h.bs.lt fun e => ok.ne e), h1⟩

theorem fp_mono (nd : Nat → Nat × Nat) (dst : Nat) : ∀ (k cur : Nat) (s : SP) (x : Nat), s.1 x = true → (fp nd dst k cur s).1 x = true := by
  intro k
  induction k with
  | zero => intro cur s x h; exact h
  | succ k ih =>
    intro cur s x h
    have hgo : ∀ y (s : SP), s.1 x = true → (fpGo (fp nd dst k) y s).1 x = true := by
      intro y s h; unfold fpGo; split
      · exact h
      · exact ih _ _ _ h
    have hend : ∀ c l r (s : SP), s.1 x = true → (fpEnd c l r s).1 x = true := by
      intro c l r s h; unfold fpEnd; split <;> exact h
    rw [fp]; split
    · exact h
    · exact hend _ _ _ _ (hgo _ _ (hgo _ _ (by simp [setB, h])))
theorem fpGo_mono (nd : Nat → Nat × Nat) (dst k y : Nat) (s : SP) (x : Nat) (h : s.1 x = true) : (fpGo (fp nd dst k) y s).1 x = true := by
  unfold fpGo; split
  · exact h
  · exact fp_mono _ _ _ _ _ _ h
theorem cnt_mono {C D : Nat → Bool} (h : ∀ x, C x = true → D x = true) : ∀ n : Nat, cnt n D ≤ cnt n C
  | 0 => Nat.le_refl _
  | n + 1 => by
    have := cnt_mono h n
    have h2 := h n
    simp only [cnt]
    cases e : C n
    · simp; split <;> omega
    · rw [h2 e]; simp; omega

set_option maxHeartbeats 1000000 in
theorem findpaths1_c {F : FFix} (ok : FOk F) {dst kk : Nat} (hk : (F.S.nodes.length + 63) / 64 = kk) (hd : dst < F.S.nodes.length) : ∀ (k cur : Nat) (s : SP) (w : World), FInv F w s → cur < F.S.nodes.length → s.1 cur = false → cnt F.S.nodes.length s.1 ≤ k →
    Calls Try.prog 141 #[.pointer (some ⟨F.p, 0, none⟩), .int .u32 (cur : Nat), .int .u32 (dst : Nat), .slice (some ⟨F.gS, 0, none⟩) kk F.cS, .slice (some ⟨F.gP, 0, none⟩) kk F.cP] w fun e w' => e = .returned (.tuple #[]) ∧ FInv F w' (fp F.S.nd dst k cur s) := by
  intro k
  induction k with
  | zero =>
    intro cur s w h hc hs hn
    have := cnt_set hs _ hc
    omega
  | succ k ih =>
    intro cur s w h hc hs hn
    have hcn := cnt_set hs _ hc
    have HT := Lib.hid (tgt_of ok.wf cur)
    have IH := Lib.hid ih
    have H := Lib.hid h
    have HN := Lib.hid (And.intro hc (And.intro hcn hn))
    clear ih h hn hcn hs
    by_cases hcd : cur = dst
    · have hb := eqq_true hcd
      have HE := Lib.hid hcd
      clear hcd
      go_enter Try.func141, Try.ntmps141
      go_wp2
      refine bodyPost_ret (results_none rfl _ _ _) rfl ?_
      exact ⟨rfl, by simp only [fp, if_pos HE.out]; exact H.out⟩
    · have hb := eqq_false hcd
      have HE := Lib.hid hcd
      clear hcd
      obtain ⟨l, hl⟩ : ∃ l, (F.S.nd cur).1 / 2 = l := ⟨_, rfl⟩
      obtain ⟨r, hr⟩ : ∃ r, (F.S.nd cur).2 / 2 = r := ⟨_, rfl⟩
      have HL := Lib.hid (And.intro hl hr)
      rw [hl, hr] at HT
      clear hl hr
      go_enter Try.func141, Try.ntmps141
      go_wp2_with fail
      refine (H.out.setS ok hk hc).mono ?_
      rintro e w1 ⟨rfl, h1⟩
      have H1 := Lib.hid h1
      clear h1
      go_wp2_with fail
      refine (chl_c H1.out.rep cur hc).mono ?_
      rintro e w2 ⟨rfl, hF⟩
      have H2 := Lib.hid (H1.out.nix hF)
      clear hF
      rw [show (F.S.nd cur).1 / 2 = l from HL.out.1]
      go_wp2_with fail
      refine (chr_c H2.out.rep cur hc).mono ?_
      rintro e w3 ⟨rfl, hF⟩
      have H3 := Lib.hid (H2.out.nix hF)
      clear hF
      rw [show (F.S.nd cur).2 / 2 = r from HL.out.2]
      go_wp2_with fail
      have hT := H3.out.testS ok hk HT.out.1
      obtain ⟨b4, hb4⟩ : ∃ b, (setB s.1 cur, s.2).1 l = b := ⟨_, rfl⟩
      rw [hb4] at hT
      have HB4 := Lib.hid hb4
      refine hT.mono ?_
      clear hT hb4
      rintro e w9 ⟨rfl, rfl⟩
      go_upto_if 27 with fail
      go_cut [] (fun wx => FInv F wx (fpGo (fp F.S.nd dst k) l (setB s.1 cur, s.2)))
      case first =>
        cases b4
        · go_wp2_with fail
          refine (IH.out l (setB s.1 cur, s.2) _ H3.out HT.out.1 HB4.out (by have := HN.out; show cnt _ (setB s.1 cur) ≤ k; omega)).mono ?_
          rintro e w9 ⟨rfl, hJ⟩
          have HJ := Lib.hid hJ
          clear hJ
          go_wp2
          go_meet
          case rel => rw [fpGo_no HB4.out]; exact HJ.out
        · go_wp2
          go_meet
          case rel => rw [fpGo_yes HB4.out]; exact H3.out
      case rest =>
      have H4 := Lib.hid hcut
      clear hcut
      go_wp2_with fail
      have hT := H4.out.testS ok hk HT.out.2
      obtain ⟨b5, hb5⟩ : ∃ b, (fpGo (fp F.S.nd dst k) l (setB s.1 cur, s.2)).1 r = b := ⟨_, rfl⟩
      rw [hb5] at hT
      have HB5 := Lib.hid hb5
      refine hT.mono ?_
      clear hT hb5
      rintro e w9 ⟨rfl, rfl⟩
      go_upto_if 37 with fail
      go_cut [] (fun wx => FInv F wx (fpGo (fp F.S.nd dst k) r (fpGo (fp F.S.nd dst k) l (setB s.1 cur, s.2))))
      case first =>
        cases b5
        · go_wp2_with fail
          refine (IH.out r (fpGo (fp F.S.nd dst k) l (setB s.1 cur, s.2)) _ H4.out HT.out.2 HB5.out (by have := HN.out; have := cnt_mono (fun x h => fpGo_mono F.S.nd dst k l (setB s.1 cur, s.2) x h) F.S.nodes.length; have : cnt F.S.nodes.length (setB s.1 cur) ≤ k := (by omega); simp only at *; omega)).mono ?_
          rintro e w9 ⟨rfl, hJ⟩
          have HJ := Lib.hid hJ
          clear hJ
          go_wp2
          go_meet
          case rel => rw [fpGo_no HB5.out]; exact HJ.out
        · go_wp2
          go_meet
          case rel => rw [fpGo_yes HB5.out]; exact H4.out
      case rest =>
      have H5 := Lib.hid hcut
      clear hcut
      obtain ⟨s3, hs3⟩ : ∃ s3, fpGo (fp F.S.nd dst k) r (fpGo (fp F.S.nd dst k) l (setB s.1 cur, s.2)) = s3 := ⟨_, rfl⟩
      rw [hs3] at H5
      have HS3 := Lib.hid hs3
      clear hs3
      have HFIN := Lib.hid (show fp F.S.nd dst (k + 1) cur s = fpEnd cur l r s3 by rw [fp, if_neg HE.out, HL.out.1, HL.out.2]; exact congrArg _ HS3.out)
      obtain ⟨bl, hbl⟩ : ∃ b, s3.2 l = b := ⟨_, rfl⟩
      obtain ⟨br, hbr⟩ : ∃ b, s3.2 r = b := ⟨_, rfl⟩
      have HBL := Lib.hid (And.intro hbl hbr)
      have hT := H5.out.testP ok hk HT.out.1
      rw [hbl] at hT
      clear hbl hbr
      go_wp2_with fail
      refine hT.mono ?_
      clear hT
      rintro e w9 ⟨rfl, rfl⟩
      cases bl
      · go_wp2_with fail
        have hT := H5.out.testP ok hk HT.out.2
        rw [show s3.2 r = br from HBL.out.2] at hT
        refine hT.mono ?_
        clear hT
        rintro e w9 ⟨rfl, rfl⟩
        cases br
        · go_wp2
          go_end0
          exact ⟨rfl, by rw [HFIN.out, fpEnd, if_neg (by rw [HBL.out.1, HBL.out.2]; decide)]; exact H5.out⟩
        · go_wp2_with fail
          refine (H5.out.setP ok hk hc).mono ?_
          rintro e w9 ⟨rfl, hJ⟩
          have HJ := Lib.hid hJ
          clear hJ
          go_wp2
          go_end0
          exact ⟨rfl, by rw [HFIN.out, fpEnd, if_pos (by rw [HBL.out.1, HBL.out.2]; decide)]; exact HJ.out⟩
      · go_wp2_with fail
        refine (H5.out.setP ok hk hc).mono ?_
        rintro e w9 ⟨rfl, hJ⟩
        have HJ := Lib.hid hJ
        clear hJ
        go_wp2
        go_end0
        exact ⟨rfl, by rw [HFIN.out, fpEnd, if_pos (by rw [HBL.out.1]; rfl)]; exact HJ.out⟩
end Go.Proofs.Ytapnmgkpljlgmaa
namespace Go.Proofs.Ytapnmgkpljlgmaa
open Go.RowKit

/-- The nodes that findpaths marks. -/
def PS.fpath (S : PS) (a b : Nat) : Nat → Bool := (fp S.nd b S.nodes.length a (fun _ => false, setB (fun _ => false) b)).2

set_option maxHeartbeats 1000000 in
theorem findpaths_c {w : World} {p : Nat} {S : PS} {L : Lay} (h : Rep w p S L) (wf : WF0 S) {a b : Nat} (ha : a < S.nodes.length) (hb : b < S.nodes.length) :
    Calls Try.prog 134 #[.pointer (some ⟨p, 0, none⟩), .int .u32 (a : Nat), .int .u32 (b : Nat)] w fun e w' =>
      ∃ g c, e = .returned (.slice (some ⟨g, 0, none⟩) ((S.nodes.length + 63) / 64) c) ∧ w.heap.size ≤ g ∧ Bits w' g ((S.nodes.length + 63) / 64) c (S.fpath a b) ∧ Fr w w' Nix := by
  have hc : w.cell? ⟨p, 0, none⟩ = some (.int .u32 (S.last : Nat)) := by rw [cell_block h.hp]; rfl
  have hla := wf.la
  have hsz := wf.sz
  obtain ⟨n, hn⟩ : ∃ n, S.nodes.length = n := ⟨_, rfl⟩
  obtain ⟨m, hm⟩ : ∃ m, S.last = m := ⟨_, rfl⟩
  rw [hm] at hc
  have hmn : m + 1 = n := by omega
  have hm2 : m + 1 < 2147483648 := by omega
  have H := Lib.hid (And.intro h (And.intro wf (And.intro ha hb)))
  have HN := Lib.hid (And.intro hn (And.intro hmn hsz))
  clear h wf ha hb hn hm hla hsz hmn
  go_enter Try.func134, Try.ntmps134
  go_wp2_with fail
  rw [show ((m : Int) + 1) = ((m + 1 : Nat) : Int) by omega]
  refine (newBitset_c (m + 1) w (by omega)).mono ?_
  rintro e w1 ⟨rfl, hB1, hF1, hS1⟩
  have H1 := Lib.hid (And.intro (H.out.1.nix hF1) (And.intro hB1 (And.intro hF1 hS1)))
  have hc1 : w1.cell? ⟨p, 0, none⟩ = some (.int .u32 (m : Nat)) := (hF1.cell (a := ⟨p, 0, none⟩) (heap_lt H.out.1.hp) fun e => e).trans hc
  clear hB1 hF1 hS1 hc
  go_wp2_with fail
  rw [show ((m : Int) + 1) = ((m + 1 : Nat) : Int) by omega]
  refine (newBitset_c (m + 1) w1 (by omega)).mono ?_
  rintro e w2 ⟨rfl, hB2, hF2, hS2⟩
  obtain ⟨k, hk⟩ : ∃ k, (m + 1 + 63) / 64 = k := ⟨_, rfl⟩
  have hk2 : (S.nodes.length + 63) / 64 = k := by rw [← hk, HN.out.1, HN.out.2.1]
  rw [hk] at hB2 ⊢
  have hB1 := H1.out.2.1
  rw [hk] at hB1
  have hlt := H1.out.2.2.2
  have hnn := HN.out.1
  have ok : FOk ⟨w2, p, S, L, w.heap.size, k, w1.heap.size, k⟩ :=
    ⟨Nat.ne_of_lt hlt, fun ho => Nat.lt_irrefl _ (H.out.1.lt _ ho), fun ho => Nat.lt_irrefl _ (Nat.lt_trans hlt (H.out.1.lt _ ho)), H.out.2.1⟩
  have hI : FInv ⟨w2, p, S, L, w.heap.size, k, w1.heap.size, k⟩ w2 (fun _ => false, fun _ => false) :=
    ⟨H1.out.1.nix hF2, Fr.refl _ _, by rw [hk2]; exact hB1.kept (hF2.block _ hlt fun e => e), by rw [hk2]; exact hB2⟩
  have hf1 := findpaths1_c (F := ⟨w2, p, S, L, w.heap.size, k, w1.heap.size, k⟩) ok hk2 (dst := b) H.out.2.2.2 S.nodes.length a
  have hset := hI.setP ok hk2 H.out.2.2.2
  have HF1 := Lib.hid hf1
  have HS := Lib.hid hset
  have HFR := Lib.hid (And.intro (H1.out.2.2.1.trans hF2 fun _ e => e.elim) (And.intro hlt hk2))
  have HK := Lib.hid hk
  clear hf1 hset hI ok hB1 hB2 hF2 hS2 hlt hk2 hk hc1
  go_wp2_with fail
  refine HS.out.mono ?_
  rintro e w3 ⟨rfl, hI3⟩
  have H3 := Lib.hid hI3
  clear hI3
  go_wp2_with fail
  refine (HF1.out _ w3 H3.out H.out.2.2.1 rfl (by rw [cnt_none]; exact Nat.le_refl _)).mono ?_
  rintro e w4 ⟨rfl, hI4⟩
  have H4 := Lib.hid hI4
  clear hI4
  go_wp2
  go_ret
  refine ⟨w1.heap.size, k, by rw [show (S.nodes.length + 63) / 64 = k from HFR.out.2.2]; rfl, Nat.le_of_lt HFR.out.2.1, H4.out.bp, ?_⟩
  refine HFR.out.1.trans H4.out.fr fun i hi => .inr ?_
  have := HFR.out.2.1
  rcases hi with rfl | rfl
  · exact Nat.le_refl _
  · exact Nat.le_of_lt this
end Go.Proofs.Ytapnmgkpljlgmaa
namespace Go.Proofs.Ytapnmgkpljlgmaa
open Go.RowKit

/-- The nodes between i1 and i2, but for i1. -/
def PS.mid (S : PS) (i1 i2 : Nat) : Nat → Bool := clrB (S.fpath i1 i2) i1

/-- Room enough for an operation. -/
structure Room (S : PS) : Prop where
  sz : 3 * S.nodes.length + 30 < 2147483648
  lg : S.lg.length + 10 * S.nodes.length + 1200 < Lim
  id : ∀ x, S.vl x ≠ 0 → x < 1000

theorem IsV.nix {w w' : World} {L : Lay} {a x : Nat} (h : IsV w L a x) (f : Fr w w' Nix) : IsV w' L a x := h.ext (Ext.nix (L := L) f)

def ColPost (w : World) (p : Nat) (S : PS) (L : Lay) (i j : Nat) (b : Bool) (e : Ending) (w' : World) : Prop :=
  match b with
  | true => e = .returned (.bool false) ∧ Fr w w' Nix
  | false => e = .returned (.bool true) ∧ ∃ ids L', ids.Nodup ∧ (∀ id, id ∈ ids ↔ S.vl id ≠ 0) ∧ Rep w' p (S.alias i (S.mid i j) ids) L' ∧ Ext w w' L L'
set_option maxHeartbeats 1000000 in
theorem collapsepath_c {w : World} {p : Nat} {S : PS} {L : Lay} (h : Rep w p S L) (wf : WF1 S) (room : Room S) {a1 a2 x y : Nat} (h1 : IsV w L a1 x) (h2 : IsV w L a2 y) (hx0 : S.vl x ≠ 0) :
    Calls Try.prog 111 #[.pointer (some ⟨p, 0, none⟩), .pointer (some ⟨a1, 0, none⟩), .pointer (some ⟨a2, 0, none⟩)] w (ColPost w p S L (S.vl x) (S.vl y) (reachB S.nd (S.vl x) (S.vl y) true)) := by
  have hc : w.cell? ⟨p, 2, none⟩ = some (.map (some L.vb)) := by rw [cell_block h.hp]; rfl
  have hl1 := fun n => (run_lookup_v (W := w.drewN n) h.hv x).2
  have hl2 := fun n => (run_lookup_v (W := w.drewN n) h.hv y).2
  have hc1 := h1.cell
  have hc2 := h2.cell
  have H := Lib.hid (And.intro h (And.intro wf (And.intro h1 (And.intro h2 (And.intro hx0 room)))))
  clear h wf h1 h2 hx0 room
  obtain ⟨i, hi⟩ : ∃ i, S.vl x = i := ⟨_, rfl⟩
  obtain ⟨j, hj⟩ : ∃ j, S.vl y = j := ⟨_, rfl⟩
  have hil : i < S.nodes.length := hi ▸ H.out.2.1.va x
  have hjl : j < S.nodes.length := hj ▸ H.out.2.1.va y
  rw [hi] at hl1
  rw [hj] at hl2
  have HI := Lib.hid (And.intro hi (And.intro hj (And.intro hil hjl)))
  rw [hi, hj]
  clear hi hj hil hjl
  obtain ⟨b, hb⟩ : ∃ b, reachB S.nd i j true = b := ⟨_, rfl⟩
  rw [hb]
  have HB := Lib.hid hb
  clear hb
  go_enter Try.func111, Try.ntmps111
  go_wp2_with fail
  go_quiet (fail)
  have hf0 : Fr w (w.drewN nq) Nix := Fr.drewN w nq Nix
  have H1 := Lib.hid hf0
  clear hl1 hl2 hc hc1 hc2 hf0
  generalize w.drewN nq = w1 at *
  go_wp2_with fail
  have hre := reaches_c (H.out.1.nix H1.out) H.out.2.1.toWF0 i j true HI.out.2.2.1
  rw [HB.out] at hre
  refine hre.mono ?_
  clear hre
  rintro e w2 ⟨rfl, hF⟩
  have H2 := Lib.hid (H1.out.trans hF fun _ e => e.elim)
  clear hF
  cases b
  · go_wp2_with fail
    refine (findpaths_c (H.out.1.nix H2.out) H.out.2.1.toWF0 HI.out.2.2.1 HI.out.2.2.2).mono ?_
    rintro e w3 ⟨g, c, rfl, hg, hB, hF⟩
    have H3 := Lib.hid (And.intro (H2.out.trans hF fun _ e => e.elim) (And.intro hg hB))
    clear hF hg hB
    obtain ⟨k, hk⟩ : ∃ k, (S.nodes.length + 63) / 64 = k := ⟨_, rfl⟩
    have HK := Lib.hid hk
    rw [hk]
    have hcl := Clear_c H3.out.2.2 i (by have := HI.out.2.2.1; omega) (by have := HI.out.2.2.1; have := H.out.2.1.sz; omega)
    rw [hk] at hcl
    clear hk
    go_wp2_with fail
    refine hcl.mono ?_
    clear hcl
    rintro e w4 ⟨rfl, hB, hF⟩
    have hno : ¬ L.own g := fun ho => by
      have := H.out.1.lt _ ho
      have := H3.out.2.1
      have := H2.out.size
      omega
    have hR4 : Rep w4 p S L := (H.out.1.nix H3.out.1).kept hF fun k hk e => hno (e ▸ hk)
    have hE4 : Ext w w4 L L := ⟨(H3.out.1.mono fun _ e => e.elim).trans hF fun k e => .inr (by
      have := H3.out.2.1
      have := H2.out.size
      omega), fun _ => .inl⟩
    have H4 := Lib.hid (And.intro hR4 (And.intro hE4 (And.intro hB hno)))
    clear hB hF hno hR4 hE4
    have hal := aliasnodes_c (T := S.mid i j) H4.out.1 H.out.2.1 (H.out.2.2.1.ext H4.out.2.1) H.out.2.2.2.2.1 (g := g) (c := c) (by rw [HK.out]; exact H4.out.2.2.1) H4.out.2.2.2
      (by rw [HI.out.1]; simp [PS.mid, clrB]) (by have := H.out.2.2.2.2.2.sz; omega) (by have := H.out.2.2.2.2.2.lg; omega) H.out.2.2.2.2.2.id HK.out
    rw [HI.out.1] at hal
    go_wp2_with fail
    refine hal.mono ?_
    clear hal
    rintro e w5 ⟨rfl, ids, L5, k1, k2, k3, k4⟩
    have H5 := Lib.hid (And.intro k1 (And.intro k2 (And.intro k3 (H4.out.2.1.trans k4))))
    clear k1 k2 k3 k4
    go_wp2
    go_ret
    exact ⟨rfl, ids, L5, H5.out.1, H5.out.2.1, H5.out.2.2.1, H5.out.2.2.2⟩
  · go_wp2
    go_ret
    exact ⟨rfl, H2.out⟩
end Go.Proofs.Ytapnmgkpljlgmaa
namespace Go.Proofs.Ytapnmgkpljlgmaa
open Go.RowKit

theorem WF1.push {S : PS} (h : WF1 S) (u : Un) : WF1 (S.push u) := ⟨h.toWF0.push u, h.ro, h.va, h.qa⟩
theorem WF1.addchild {S : PS} (h : WF1 S) (i1 i2 : Nat) (st : Bool) (h1 : i1 < S.nodes.length) (h2 : i2 < S.nodes.length) (hs : S.nodes.length + 1 < 2147483648) : WF1 (S.addchild i1 i2 st) := by
  obtain ⟨f1, f2, f3, f4, f5, f6, f7, f8⟩ := addchild_facts h.toWF0 i1 i2 st h1 h2 hs
  exact ⟨f1, fun r hr => by rw [f7] at hr; have := h.ro r hr; omega, fun id => by rw [f6]; have := h.va id; omega, fun i j hq => by rw [f8] at hq; have := h.qa i j hq; omega⟩
theorem WF1.newX {S : PS} (h : WF1 S) (hs : S.nodes.length + 1 < 2147483648) : WF1 S.newX := by
  have hl : S.newX.nodes.length = S.nodes.length + 1 := by simp [PS.newX]
  exact ⟨h.toWF0.newX hs, fun r hr => by rw [hl]; have := h.ro r hr; omega, fun id => by rw [hl]; have := h.va id; show S.vl id < _; omega, fun i j hq => by rw [hl]; have := h.qa i j hq; omega⟩
theorem WF1.newV {S : PS} (h : WF1 S) (x : Nat) (hs : S.nodes.length + 1 < 2147483648) : WF1 (S.newV x) := by
  have hl : (S.newV x).nodes.length = S.nodes.length + 1 := by simp [PS.newV]
  have h0 := h.toWF0.newX hs
  have hla := h.la
  refine ⟨⟨h0.la, h0.sz, h0.ir⟩, fun r hr => by rw [hl]; have := h.ro r hr; omega, fun id => ?_, fun i j hq => by rw [hl]; have := h.qa i j hq; omega⟩
  rw [hl]
  show upd S.vl x (S.last + 1) id < _
  unfold upd
  split
  · omega
  · have := h.va id; omega
theorem WF1.rts {S : PS} (h : WF1 S) {f : Nat → Bool} (hf : ∀ r, f r = true → r < S.nodes.length) : WF1 { S with rt := f } := ⟨⟨h.la, h.sz, h.ir⟩, hf, h.va, h.qa⟩
theorem WF1.root {S : PS} (h : WF1 S) {i : Nat} (hi : i < S.nodes.length) : WF1 { S with rt := upd S.rt i true } := by
  refine h.rts fun r hr => ?_
  by_cases e : r = i
  · rw [e]; exact hi
  · exact h.ro r (by simpa [upd, e] using hr)
theorem WF1.chroot {S : PS} (h : WF1 S) {o e : Nat} (he : e < S.nodes.length) : WF1 { S with rt := upd (upd S.rt o false) e true } := by
  refine h.rts fun r hr => ?_
  by_cases e1 : r = e
  · rw [e1]; exact he
  · by_cases e2 : r = o
    · simp [upd, e1, e2] at hr; subst e2; simp [e1] at hr
    · exact h.ro r (by simpa [upd, e1, e2] using hr)
theorem WF1.unroot {S : PS} (h : WF1 S) (o : Nat) : WF1 { S with rt := upd S.rt o false } := by
  refine h.rts fun r hr => ?_
  by_cases e2 : r = o
  · simp [upd, e2] at hr
  · exact h.ro r (by simpa [upd, e2] using hr)
theorem WF1.mark {S : PS} (h : WF1 S) {a b : Nat} (ha : a < S.nodes.length) : WF1 (S.mark a b) := by
  unfold PS.mark
  split
  · exact h
  · refine WF1.push (S := { S with nq := setQ S.nq a b }) ⟨⟨h.la, h.sz, h.ir⟩, h.ro, h.va, fun i j hq => ?_⟩ _
    have : setQ S.nq a b i j = true := hq
    by_cases e : i = a
    · rw [e]; exact ha
    · exact h.qa i j (by simpa [setQ, e] using this)
theorem WF1.mark2 {S : PS} (h : WF1 S) {a b : Nat} (ha : a < S.nodes.length) (hb : b < S.nodes.length) : WF1 (S.mark2 a b) := by
  unfold PS.mark2
  split
  · exact h.mark hb
  · exact h.mark ha
theorem mark2_facts (S : PS) (a b : Nat) : (S.mark2 a b).nodes = S.nodes ∧ (S.mark2 a b).vl = S.vl ∧ (S.mark2 a b).rt = S.rt ∧ (S.mark2 a b).last = S.last ∧ (S.mark2 a b).lg.length ≤ S.lg.length + 1 := by
  unfold PS.mark2 PS.mark
  split <;> split <;> simp [PS.push]
theorem setnoneq_wf {S : PS} (h : WF1 S) (x y : Nat) (hs : S.nodes.length + 10 < 2147483648) : WF1 (S.setnoneq x y) := by
  have hla := h.la
  obtain ⟨h1, h2, _⟩ := ensure_wf h x (by omega)
  have h1a := h1.la
  obtain ⟨h3, _⟩ := ensure_wf h1 y (by omega)
  exact h3.mark2 (h3.va x) (h3.va y)
theorem setnoneq_facts (S : PS) (x y : Nat) : (S.setnoneq x y).lg.length ≤ S.lg.length + 5 ∧ (S.setnoneq x y).nodes.length ≤ S.nodes.length + 2 := by
  have e : ∀ (S : PS) id, (S.ensure id).lg.length ≤ S.lg.length + 2 ∧ (S.ensure id).nodes.length ≤ S.nodes.length + 1 := by
    intro S id
    rcases ensure_cases S id with ⟨_, e⟩ | ⟨_, e⟩ <;> rw [e]
    · simp [PS.newRoot, PS.newV, PS.push]
    · omega
  have e1 := e S x
  have e2 := e (S.ensure x) y
  have e3 := mark2_facts ((S.ensure x).ensure y) (((S.ensure x).ensure y).vl x) (((S.ensure x).ensure y).vl y)
  unfold PS.setnoneq
  rw [e3.1]
  omega
theorem setnoneq_known {S : PS} {x y : Nat} (hx : S.vl x ≠ 0) (hy : S.vl y ≠ 0) : S.setnoneq x y = S.mark2 (S.vl x) (S.vl y) := by
  have e1 := (ensure_cases S x).resolve_left (fun h => hx h.1)
  have e2 := (ensure_cases S y).resolve_left (fun h => hy h.1)
  unfold PS.setnoneq
  rw [e1.2, e2.2]
theorem ensure_ne {S : PS} (h : WF1 S) {x y : Nat} (hxy : x ≠ y) (hne : S.vl x = S.vl y → S.vl x = 0) : ((S.ensure x).ensure y).vl x ≠ ((S.ensure x).ensure y).vl y := by
  have hla := h.la
  have hvx := h.va x
  have hvy := h.va y
  rcases ensure_cases S x with ⟨a1, e1⟩ | ⟨a1, e1⟩ <;> rcases ensure_cases (S.ensure x) y with ⟨a2, e2⟩ | ⟨a2, e2⟩ <;> rw [e2] <;> rw [e1] at a2 ⊢ <;>
    simp [PS.newRoot, PS.newV, PS.push, upd, hxy, Ne.symm hxy] at a2 ⊢ <;> omega
end Go.Proofs.Ytapnmgkpljlgmaa
